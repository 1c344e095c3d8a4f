import PyProof.Rows.All
import Wide.All
import OpenK.AllK
import Wide.FinOn
import PySem.Challenge.RW_fe0187_01
open PySem PySem.W PyProof.Rows
set_option Elab.async false
set_option maxRecDepth 100000
set_option maxHeartbeats 8000000

-- Plain
section
open PySem
namespace Mine

def natOf (b : Array UInt8) : Nat := b.toList.foldl (fun (acc : Nat) (c : UInt8) => acc * 256 + c.toNat) 0

/-- the base-58 digits, greatest first; none for nought -/
def dig (n : Nat) : List Nat := if _h : n = 0 then [] else dig (n / 58) ++ [n % 58]
termination_by n
decreasing_by omega

theorem dig_zero : dig 0 = [] := by rw [dig]; simp
theorem dig_pos {n : Nat} (h : n ≠ 0) : dig n = dig (n / 58) ++ [n % 58] := by rw [dig]; simp [h]

def signs : List Nat := [49,50,51,52,53,54,55,56,57,65,66,67,68,69,70,71,72,74,75,76,77,78,80,81,82,83,84,85,86,87,88,89,90,97,98,99,100,101,102,103,104,105,106,107,109,110,111,112,113,114,115,116,117,118,119,120,121,122]
theorem signs_is : (Str.ofString "123456789ABCDEFGHJKLMNPQRSTUVWXYZabcdefghijkmnopqrstuvwxyz").cps = signs.toArray := by decide +kernel
def sg (d : Nat) : Nat := signs.getD d 0
def enc (n : Nat) : Str := ⟨((dig n).map sg).toArray⟩

theorem dig_lt (n : Nat) : ∀ d ∈ dig n, d < 58 := by
  induction n using Nat.strongRecOn with
  | ind n ih =>
    by_cases h : n = 0
    · subst h; rw [dig_zero]; simp
    · rw [dig_pos h]
      intro d hd
      rcases List.mem_append.mp hd with h1 | h1
      · exact ih (n / 58) (by omega) d h1
      · rw [List.mem_singleton.mp h1]; omega

theorem dig_len (k : Nat) : ∀ n, n < 2 ^ k → (dig n).length ≤ k := by
  induction k with
  | zero => intro n h; have : n = 0 := by omega
            subst this; rw [dig_zero]; simp
  | succ k ih =>
    intro n h
    by_cases h0 : n = 0
    · subst h0; rw [dig_zero]; simp
    · rw [dig_pos h0, List.length_append, List.length_singleton]
      have := ih (n / 58) (by rw [Nat.pow_succ] at h; omega)
      omega

/-- the digits read again -/
theorem dig_read (n : Nat) : (dig n).foldl (fun a d => a * 58 + d) 0 = n := by
  induction n using Nat.strongRecOn with
  | ind n ih =>
    by_cases h : n = 0
    · subst h; rw [dig_zero]; rfl
    · rw [dig_pos h, List.foldl_append, ih (n / 58) (by omega)]
      simp only [List.foldl_cons, List.foldl_nil]; omega

theorem dig_nil {n : Nat} : dig n = [] ↔ n = 0 := by
  constructor
  · intro h
    by_cases h0 : n = 0
    · exact h0
    · rw [dig_pos h0] at h; simp at h
  · rintro rfl; exact dig_zero

/-- the first digit is not nought -/
theorem dig_head (n : Nat) : (dig n).head? ≠ some 0 := by
  induction n using Nat.strongRecOn with
  | ind n ih =>
    by_cases h : n = 0
    · subst h; rw [dig_zero]; simp
    · rw [dig_pos h]
      by_cases h1 : n / 58 = 0
      · rw [h1, dig_zero]; simp; omega
      · have h2 := ih (n / 58) (by omega)
        cases h3 : dig (n / 58) with
        | nil => exact absurd (dig_nil.mp h3) h1
        | cons x r => rw [h3] at h2; simpa using h2

theorem sg_signs : ∀ d, d < 58 → signs[d]? = some (sg d) := by decide
theorem sg_inj : ∀ d, d < 58 → ∀ e, e < 58 → sg d = sg e → d = e := by decide +kernel
end Mine
namespace Mine
open PySem
theorem natOf_app (l r : List UInt8) : ∀ a : Nat, (l ++ r).foldl (fun (acc : Nat) (c : UInt8) => acc * 256 + c.toNat) a = r.foldl (fun (acc : Nat) (c : UInt8) => acc * 256 + c.toNat) (l.foldl (fun (acc : Nat) (c : UInt8) => acc * 256 + c.toNat) a) := by
  intro a; rw [List.foldl_append]
theorem fold_shift : ∀ (l : List UInt8) (a : Nat), l.foldl (fun (acc : Nat) (c : UInt8) => acc * 256 + c.toNat) a = a * 256 ^ l.length + l.foldl (fun (acc : Nat) (c : UInt8) => acc * 256 + c.toNat) 0
  | [], a => by simp
  | c :: r, a => by
    rw [List.foldl_cons, List.foldl_cons, fold_shift r, fold_shift r (0 * 256 + c.toNat), List.length_cons, Nat.pow_succ, Nat.zero_mul, Nat.zero_add]
    rw [Nat.add_mul, Nat.mul_assoc, Nat.mul_comm 256 (256 ^ r.length), Nat.add_assoc]
theorem fold_lt : ∀ (l : List UInt8), l.foldl (fun (acc : Nat) (c : UInt8) => acc * 256 + c.toNat) 0 < 256 ^ l.length
  | [] => by simp
  | c :: r => by
    rw [List.foldl_cons, fold_shift, List.length_cons, Nat.pow_succ]
    have := fold_lt r
    have hc := c.toNat_lt
    have h2 : (c.toNat + 1) * 256 ^ r.length ≤ 256 * 256 ^ r.length := Nat.mul_le_mul_right _ (by omega)
    rw [Nat.add_mul, Nat.one_mul] at h2
    rw [Nat.zero_mul, Nat.zero_add, Nat.mul_comm (256 ^ r.length) 256]
    omega
/-- the number of the last i octets -/
def upto (b : Array UInt8) (i : Nat) : Nat := (b.toList.drop (b.size - i)).foldl (fun (acc : Nat) (c : UInt8) => acc * 256 + c.toNat) 0
theorem upto_zero (b : Array UInt8) : upto b 0 = 0 := by
  unfold upto
  rw [List.drop_of_length_le (by simp)]; rfl
theorem upto_all (b : Array UInt8) : upto b b.size = natOf b := by simp [upto, natOf]
theorem upto_succ {b : Array UInt8} {i : Nat} {c : UInt8} (hi : i < b.size) (hc : b[b.size - 1 - i]? = some c) : upto b (i + 1) = upto b i + 256 ^ i * c.toNat := by
  unfold upto
  have e1 : b.size - (i + 1) = b.size - 1 - i := by omega
  have hlt : b.size - 1 - i < b.toList.length := by simp; omega
  rw [e1, List.drop_eq_getElem_cons hlt, List.foldl_cons, fold_shift]
  have e2 : b.size - 1 - i + 1 = b.size - i := by omega
  have e3 : b.toList[b.size - 1 - i] = c := by
    have : b.toList[b.size - 1 - i]? = some c := by simpa using hc
    rw [List.getElem?_eq_getElem hlt] at this
    exact Option.some.inj this
  rw [e2, e3, List.length_drop, Array.length_toList]
  have e4 : b.size - (b.size - i) = i := by omega
  rw [e4, Nat.zero_mul, Nat.zero_add, Nat.mul_comm, Nat.add_comm]
theorem natOf_lt (b : Array UInt8) : natOf b < 256 ^ b.size := by
  have := fold_lt b.toList
  simpa [natOf] using this
theorem natOf_lt2 {b : Array UInt8} (h : b.size ≤ 100) : natOf b < 2 ^ 800 := by
  refine Nat.lt_of_lt_of_le (natOf_lt b) ?_
  have : (2:Nat) ^ 800 = 256 ^ 100 := by decide +kernel
  rw [this]
  exact Nat.pow_le_pow_right (by decide) h
theorem dig_natOf {b : Array UInt8} (h : b.size ≤ 100) : (dig (natOf b)).length ≤ 800 := dig_len _ _ (natOf_lt2 h)

/-- what holds between the turns of the while -/
def WI (N : Nat) (acc : Int) (x : Str) : Prop := (dig acc.toNat).map sg ++ x.cps.toList = (dig N).map sg
theorem WI.first (N : Nat) : WI N (N : Int) (Str.ofString "") := by
  have : (Str.ofString "").cps = #[] := by decide +kernel
  unfold WI; rw [this]; simp
theorem WI.last {N : Nat} {x : Str} (h : WI N 0 x) : x = enc N := by
  unfold WI at h
  rw [show (0 : Int).toNat = 0 from rfl, dig_zero] at h
  unfold enc
  cases x with
  | mk c => simp at h; rw [← h]
theorem fd58 {a : Int} (h : 0 ≤ a) : a.fdiv 58 = ((a.toNat / 58 : Nat) : Int) ∧ a.fmod 58 = ((a.toNat % 58 : Nat) : Int) := by
  rw [Int.fdiv_eq_ediv_of_nonneg _ (by omega), Int.fmod_eq_emod_of_nonneg _ (by omega)]
  omega
theorem WI.len {N : Nat} {a : Int} {x : Str} (h : WI N a x) (hN : (dig N).length ≤ 800) : (dig a.toNat).length + x.length ≤ 800 := by
  have e := congrArg List.length h
  rw [List.length_append, List.length_map, List.length_map] at e
  have h1 : x.length = x.cps.toList.length := by rw [Array.length_toList]; rfl
  omega
theorem WI.turn {N : Nat} {a : Int} {x y : Str} (h : WI N a x) (h0 : 0 ≤ a) (hne : a ≠ 0) (hy : y = ⟨#[sg (a.fmod 58).toNat]⟩) : WI N (a.fdiv 58) (y ++ x) := by
  obtain ⟨e1, e2⟩ := fd58 h0
  have hn : a.toNat ≠ 0 := by omega
  unfold WI at h ⊢
  rw [dig_pos hn] at h
  have e3 : (a.fdiv 58).toNat = a.toNat / 58 := by omega
  have e4 : (a.fmod 58).toNat = a.toNat % 58 := by omega
  rw [e3, ← h, hy, e4]
  show _ ++ (#[sg (a.toNat % 58)] ++ x.cps).toList = _
  simp
end Mine
end

-- Rev
section
namespace Mine
open PySem.Calls PyProof.V PySem.Spec

theorem slot_rv_next : Slot "reversed" "__next__" "reversed.__next__" :=
  .of (owner := "reversed") (n := "__next__") (by rw [typeLookup_type, builtinLookup_eq_fast]; kernel_rfl) (by decide +kernel) (by decide +kernel) (by decide +kernel)
    (by first | exact .inl (by decide +kernel) | exact .inr (by decide +kernel)) (by rw [isSubtype_type]; kernel_rfl)
theorem slot_rv_iter : Slot "reversed" "__iter__" "reversed.__iter__" :=
  .of (owner := "reversed") (n := "__iter__") (by rw [typeLookup_type, builtinLookup_eq_fast]; kernel_rfl) (by decide +kernel) (by decide +kernel) (by decide +kernel)
    (by first | exact .inl (by decide +kernel) | exact .inr (by decide +kernel)) (by rw [isSubtype_type]; kernel_rfl)
theorem entry_rv_next : entryFor table "reversed.__next__" = some Builtin.«reversed.__next__» := entryFor_of_tree (by kernel_rfl)
theorem entry_rv_iter : entryFor table "reversed.__iter__" = some Builtin.«dict_keyiterator.__iter__» :=
  entryFor_alias (id' := "dict_keyiterator.__iter__") (by kernel_rfl) (by first | rfl | decide +kernel | (unfold String.splitOn; simp +decide [String.splitOnAux])) (by decide +kernel) (by kernel_rfl)
theorem args_rv_next (a : Value) : argsOk "reversed.__next__" ⟨[a], []⟩ := by unfold argsOk; kernel_rfl
theorem args_rv_iter (a : Value) : argsOk "reversed.__iter__" ⟨[a], []⟩ := by unfold argsOk; kernel_rfl
theorem bytes_no_rev : typeLookup (.type "bytes") "__reversed__" = pure none := by rw [typeLookup_type, builtinLookup_eq_fast]; kernel_rfl
theorem bytes_no_dict : isSubtype (.type "bytes") (.type "dict") = pure false := by rw [isSubtype_type]; kernel_rfl
theorem slot_rv_init : Slot "reversed" "__init__" "object.__init__" :=
  .of (owner := "object") (n := "__init__") (by rw [typeLookup_type, builtinLookup_eq_fast]; kernel_rfl) (by decide +kernel) (by decide +kernel) (by decide +kernel)
    (by first | exact .inl (by decide +kernel) | exact .inr (by decide +kernel)) (by rw [isSubtype_type]; kernel_rfl)
theorem called_rv : TypeCalled "reversed" "reversed.__new__" "object.__init__" :=
  ⟨by decide +kernel, F.create_reversed, ⟨_, _, F.mro_reversed⟩, F.made_reversed, F.plain_reversed_new, F.sub_reversed_self, slot_rv_init⟩

def rvObj (b : Array UInt8) (t : Tok) (i : Int) : Obj := { cls := .type "reversed", data := .fields #[.bytes b t, rawInt i] }
def IsRv (h : Heap) (a : Addr) (b : Array UInt8) (t : Tok) (i : Int) : Prop := ∃ o, h.get? a = some o ∧ o.cls = .type "reversed" ∧ o.data = .fields #[.bytes b t, rawInt i]
theorem IsRv.typeIs {s : Shared} {a : Addr} {b : Array UInt8} {t : Tok} {i : Int} (y : IsRv s.heap a b t i) : s.TypeIs (.ref a) "reversed" :=
  let ⟨o, ho, hc, _⟩ := y; ⟨o, ho, hc⟩

theorem meets_rv_new (b : Array UInt8) (t : Tok) (hb : b.size ≤ 1000000) :
    Meets (Builtin.«reversed.__new__» ⟨[.type "reversed", .bytes b t], []⟩) (fun _ R s =>
      R (.ok (.ret (.ref s.heap.objs.size))) { s with heap := s.heap.push (rvObj b t ((b.size : Int) - 1)), toks := s.toks + 1 + 1 }) :=
  .of_wp fun prog w A R s h => by
    unfold Builtin.«reversed.__new__»
    refine wpAny_bind (wpAny_of_eq (newClass_reversed _) ?_)
    try dsimp only
    refine wpAny_bind (wpAny_of_eq (a := ()) (by first | rfl | kernel_rfl) ?_)
    refine wpAny_bind (wpAny_of_eq (a := ()) (by first | rfl | kernel_rfl) ?_)
    try dsimp only
    refine wpAny_bind (wpAny_specialOf (typeIs_bytes s b t) bytes_no_rev ?_)
    try dsimp only
    refine wpAny_bind ?_
    refine wpAny_bind ?_
    refine wpAny_isInstance (typeIs_bytes s b t) bytes_no_dict ?_
    refine KFB.if_not rfl ?_
    refine wpAny_bind (wpAny_specialOf (typeIs_bytes s b t) FB.slot_bytes_getitem.lookup ?_)
    dsimp only
    refine KFB.if_so (by decide +kernel) ?_
    refine wpAny_pure ?_
    refine KFB.if_not rfl ?_
    refine wpAny_bind (len_bytes (by omega) ?_)
    refine wpAny_bind (wpAny_of_eq (a := some ((b.size : Nat) : Int)) (by first | rfl | kernel_rfl) ?_)
    dsimp only
    refine wpAny_bind ?_
    show wpAny _ _ (newObj (.type "reversed") (.fields #[.bytes b t, rawInt ((b.size : Int) - 1)])) _ _ _
    refine wpAny_newObj_type ?_
    exact wpAny_pure ⟨_, rfl, h⟩

section
variable {prog : Program} {w : World} {A : Around} {E : Value → Shared → Prop} {s : Shared} {b : Array UInt8} {t : Tok}

theorem call_rv {Q : Value → Shared → Prop} (hb : b.size ≤ 1000000)
    (h : Q (.ref s.heap.objs.size) { s with heap := s.heap.push (rvObj b t ((b.size : Int) - 1)), toks := s.toks + 1 + 1 }) :
    wpAny (model prog w) A (call (.type "reversed") [.bytes b t]) Q E s :=
  callType_new called_rv (by decide) (F.typeCall_reversed_1 _) (F.newCall_reversed_1 _) (fun obj => F.args_object_init_2 obj _) F.entry_reversed_new
    (meets_rv_new b t hb) ⟨⟨_, Heap.get?_push_size _ rfl, rfl⟩, h⟩

theorem iter_rv {it : Addr} {i : Int} {Q : Value → Shared → Prop} (hit : IsRv s.heap it b t i) (h : Q (.ref it) s) : wpAny (model prog w) A (pyIter (.ref it)) Q E s := by
  refine wpAny_pyIter_slot hit.typeIs slot_rv_iter (wpAny_call_entry slot_rv_iter hit.typeIs entry_rv_iter ?_ (args_rv_iter _))
  show wpAny _ _ (ret (.ref it)) _ _ s
  exact wpAny_pure ⟨_, rfl, "reversed", _, hit.typeIs, slot_rv_next.lookup, h⟩

theorem next_rv_item {it : Addr} {i : Nat} {c : UInt8} {Q : Option Value → Shared → Prop} (hb : b.size ≤ 1000000) (hit : IsRv s.heap it b t (i : Int)) (hx : b[i]? = some c)
    (hQ : ∀ h' u tk', IsRv h' it b t ((i : Int) - 1) → Heap.SameBut it s.heap h' → Q (some (.int (c.toNat : Int) u)) { s with heap := h', toks := tk' }) : wpAny (model prog w) A (pyNext (.ref it)) Q E s := by
  obtain ⟨o, ho, hc, hd⟩ := id hit
  have hlt : i < b.size := by
    rcases Nat.lt_or_ge i b.size with h | h
    · exact h
    · rw [Array.getElem?_eq_none h] at hx; cases hx
  unfold pyNext
  refine wpAny_bind (wpAny_attempt (wpAny_callSpecial?_slot (name := PySem.Str.ofString "__next__") hit.typeIs slot_rv_next
    (wpAny_call_entry slot_rv_next hit.typeIs entry_rv_next ?_ (args_rv_next _))))
  unfold Builtin.«reversed.__next__»
  refine wpAny_bind (wpAny_of_eq (a := (Value.ref it, [])) rfl ?_)
  try dsimp only
  refine wpAny_bind (wpAny_field ho hd (x := .bytes b t) rfl ?_)
  refine wpAny_bind (wpAny_field ho hd (x := rawInt (i : Int)) rfl ?_)
  show wpAny _ _ (if (i : Int) < 0 then _ else _) _ _ s
  rw [if_neg (by omega)]
  refine wpAny_bind (wpAny_specialOf (typeIs_bytes s b t) FB.slot_bytes_getitem.lookup ?_)
  refine KFB.if_not rfl ?_
  refine wpAny_bind (wpAny_mkInt ?_)
  refine wpAny_bind (wpAny_attempt ?_)
  have e : b.toList.toArray = b := Array.toArray_toList
  have g : wpAny (model prog w) A.in1 (getItem (.bytes b.toList.toArray t) (.int (i : Int) s.toks)) (fun v s' => v = .int (c.toNat : Int) (s.toks + 1) ∧ s' = { s with toks := s.toks + 1 + 1 }) (fun _ _ => False) { s with toks := s.toks + 1 } := by
    refine getItem_bytes (l := b.toList) (by simpa using (by omega : b.size ≤ 1099511627776)) (by omega) (by simpa using hlt) ?_
    have hx' : b.toList.getD i 0 = c := by simp [List.getD_eq_getElem?_getD, hx]
    exact ⟨by simp only [Int.toNat_natCast, hx'], rfl⟩
  rw [e] at g
  refine wpAny_mono g (fun v s' hv => ?_) (fun _ _ x => x.elim)
  obtain ⟨rfl, rfl⟩ := hv
  dsimp only
  refine wpAny_bind (wpAny_field ho hd (x := rawInt (i : Int)) rfl ?_)
  refine wpAny_bind (wpAny_setField ho hd (by simp) ?_)
  refine wpAny_pure ⟨_, rfl, wpAny_pure (hQ _ _ _ ?_ (Heap.SameBut.update ..))⟩
  exact ⟨_, Heap.get?_update_self _ ho (Obj.isFreed_of_fields (Obj.data_mapFields hd _)), (Obj.cls_mapFields ..).trans hc, by
    rw [Obj.data_mapFields hd]; simp [rawInt]⟩

theorem next_rv_end {it : Addr} {Q : Option Value → Shared → Prop} (hh : A.handled = none) (hit : IsRv s.heap it b t (-1))
    (hQ : ∀ h', Heap.ExtBut it s.heap h' → Q none { s with heap := h' }) : wpAny (model prog w) A (pyNext (.ref it)) Q E s := by
  obtain ⟨o, ho, hc, hd⟩ := id hit
  unfold pyNext
  refine wpAny_bind (wpAny_attempt (wpAny_callSpecial?_slot (name := PySem.Str.ofString "__next__") hit.typeIs slot_rv_next
    (wpAny_call_entry slot_rv_next hit.typeIs entry_rv_next ?_ (args_rv_next _))))
  unfold Builtin.«reversed.__next__»
  refine wpAny_bind (wpAny_of_eq (a := (Value.ref it, [])) rfl ?_)
  try dsimp only
  refine wpAny_bind (wpAny_field ho hd (x := .bytes b t) rfl ?_)
  refine wpAny_bind (wpAny_field ho hd (x := rawInt (-1)) rfl ?_)
  show wpAny _ _ (if (-1 : Int) < 0 then _ else _) _ _ s
  rw [if_pos (by decide)]
  refine wpAny_bind (wpAny_rule ?_)
  refine wpAny_bind ?_
  refine wpAny_bind ?_
  refine wpAny_setField ho hd (by simp) ?_
  have ho2 := Heap.get?_update_self (Obj.mapFields fun a => a.setIfInBounds 1 (rawInt (-1))) ho (Obj.isFreed_of_fields (Obj.data_mapFields hd _))
  refine wpAny_setField ho2 (Obj.data_mapFields hd _) (by simp) ?_
  refine wpAny_bind ?_
  show wpAny _ _ (newExc (.type "StopIteration") [] >>= _) _ _ _
  refine wpAny_bind ?_
  simp only [newExc, newTuple]
  refine wpAny_bind (wpAny_newObj_type ?_ (by size_fits))
  refine wpAny_bind (m := firstArgMember _ _) (wpAny_of_eq (a := Value.none) (by first | rfl | (simp only [firstArgMember]; rfl)) ?_)
  refine wpAny_newObj_type ?_ (by size_fits)
  simp only [raiseNew]
  refine wpAny_bind (wpAny_handled ?_)
  rw [show A.in1.handled = none from hh]
  refine wpAny_bind (wpAny_pure (wpAny_throw ?_))
  refine wpAny_bind (wpAny_isInstance (T := "StopIteration") (b := true) ⟨_, Heap.get?_push_size _ rfl, rfl⟩ isSubtype_stop ?_)
  refine wpAny_pure (hQ _ ?_)
  have e1 : Heap.SameBut it s.heap (s.heap.update it (Obj.mapFields fun x => x.setIfInBounds 1 (rawInt (-1)))) := Heap.SameBut.update ..
  have e2 : Heap.SameBut it (s.heap.update it (Obj.mapFields fun x => x.setIfInBounds 1 (rawInt (-1)))) ((s.heap.update it (Obj.mapFields fun x => x.setIfInBounds 1 (rawInt (-1)))).update it (Obj.mapFields fun x => x.setIfInBounds 0 .none)) := Heap.SameBut.update ..
  exact (((e1.trans e2).extBut).push _).push _
end

theorem walks_rv {prog : Program} {w : World} {A : Around} (hh : A.handled = none) (I : Addr) (b : Array UInt8) (t : Tok) (hb : b.size ≤ 1000000) :
    Walks prog w A I [I] [I] b.size (fun i v => ∃ c u, b[b.size - 1 - i]? = some c ∧ v = .int (c.toNat : Int) u) (fun i h => i ≤ b.size ∧ IsRv h I b t ((b.size : Int) - 1 - (i : Int))) where
  sub := fun _ hb => hb
  frame := fun _ _ _ st hk => let ⟨o, ho, r⟩ := st.2; ⟨st.1, o, hk I (by simp) o ho, r⟩
  item := fun i s Q E hi st hQ => by
    have e : (b.size : Int) - 1 - (i : Int) = ((b.size - 1 - i : Nat) : Int) := by omega
    have hit := st.2
    rw [e] at hit
    refine next_rv_item hb hit (c := b[b.size - 1 - i]'(by omega)) (Array.getElem?_eq_getElem (by omega)) fun h' u tk' hit' hs' => ?_
    have e2 : ((b.size - 1 - i : Nat) : Int) - 1 = (b.size : Int) - 1 - ((i + 1 : Nat) : Int) := by omega
    rw [e2] at hit'
    exact hQ _ h' tk' ⟨_, _, Array.getElem?_eq_getElem (by omega), rfl⟩ ⟨hi, hit'⟩ fun b o hb e => hs'.extBut b o (fun h => hb (by simp [h])) e
  done := fun s Q E st hQ => by
    have e : (b.size : Int) - 1 - (b.size : Int) = -1 := by omega
    have hit := st.2
    rw [e] at hit
    exact next_rv_end hh hit fun h' he' => hQ h' s.toks fun b o hb e => he' b o (fun h => hb (by simp [h])) e
  self := fun _ _ _ _ st hQ => iter_rv st.2 hQ
section
open PySem.W
variable {prog : Program} {w : World} {A : Around} {E : Value → Shared → Prop} {s : Shared} {env : Env} {h₀ : Heap} {x : PySem.Str} {body : List Stmt} {Q : Flow → Shared → Prop} {b : Array UInt8} {tb : Tok}
  {m₀ : PySem.Str → Option Value} {news : List (Addr × Obj)}

theorem rev_for2 {y y' : PySem.Str} {c₀ c₁ : Int} {tc td : Tok} (J : Nat → Int → Int → Prop) (hb : b.size ≤ 1000000)
    (hh : A.handled = none) (F : Fr h₀ env.locals s.heap m₀) (N : News h₀ env.locals s.heap news) (hy : m₀ y = some (.int c₀ tc)) (hy' : m₀ y' = some (.int c₁ td)) (h0 : J 0 c₀ c₁)
    (turn : ∀ i (c : UInt8) t a ta e te h tk own, b[b.size - 1 - i]? = some c → i < b.size → OwnOff own (news.map (·.1)) → J i a e →
      Fr h₀ env.locals h (fun z => if z = x then some (.int (c.toNat : Int) t) else if z = y then some (.int a ta) else if z = y' then some (.int e te) else m₀ z) → News h₀ env.locals h (news ++ own) →
      wpAny (model prog w) A (execs body env) (InvPostN h₀ env.locals (fun m' nx => nx = news ∧ (∃ a' e' t' u', m' y = some (.int a' t') ∧ m' y' = some (.int e' u') ∧ J (i + 1) a' e') ∧ ∀ z, z ≠ x → z ≠ y → z ≠ y' → m' z = m₀ z) own (news.map (·.1)) { s with heap := h, toks := tk } Q) E { s with heap := h, toks := tk })
    (done : ∀ (u : PySem.Str → Option Value) a e t t' h tk, J b.size a e → Fr h₀ env.locals h (fun z => if z = x then u z else if z = y then some (.int a t) else if z = y' then some (.int e t') else m₀ z) → News h₀ env.locals h news → Q .next { s with heap := h, toks := tk }) :
    wpAny (model prog w) A (call (.type "reversed") [.bytes b tb]) (fun xv s₁ => wpAny (model prog w) A (pyIter xv) (fun it s₂ => LoopAtV prog w A h₀ env x body Q E it s₂) E s₁) E s := by
  refine call_rv hb ?_
  have hit : IsRv (s.heap.push (rvObj b tb ((b.size : Int) - 1))) s.heap.objs.size b tb ((b.size : Int) - 1) := ⟨_, Heap.get?_push_size _ rfl, rfl, rfl⟩
  refine iter_rv hit ?_
  have W := walks_rv (prog := prog) (w := w) hh s.heap.objs.size b tb hb
  refine loop_invN (fun i m nx => nx = news ∧ (∃ a e t u, m y = some (.int a t) ∧ m y' = some (.int e u) ∧ J i a e) ∧ ∀ z, z ≠ x → z ≠ y → z ≠ y' → m z = m₀ z) W ?_ ?_ ?_ ?_ ⟨Nat.zero_le _, by simpa using hit⟩ (F.push _) (fun p hp => ⟨Heap.get?_push_of_some _ (N p hp).1, (N p hp).2⟩) ⟨rfl, ⟨c₀, c₁, tc, td, hy, hy', h0⟩, fun _ _ _ _ => rfl⟩ ?_ ?_
  · intro hm
    exact absurd F.ns.lt ((List.mem_singleton.mp hm) ▸ Nat.lt_irrefl _)
  · intro b' hb
    rw [List.mem_singleton.mp hb]
    exact next_is_new F
  · intro p hp hI
    exact absurd (Heap.lt_size (N p hp).1) ((List.mem_singleton.mp hI) ▸ Nat.lt_irrefl _)
  · intro p hp hI
    exact absurd (Heap.lt_size (N p hp).1) ((List.mem_singleton.mp hI) ▸ Nat.lt_irrefl _)
  · rintro i v m₁ nx h tk own hi ⟨c, u, hc, rfl⟩ _ hoff ⟨rfl, ⟨a, e, ta, te, ha, he, hJ⟩, hm⟩ F₁ N₁
    rw [map_two ha he hm] at F₁
    exact turn i c u a ta e te h tk own hc hi hoff hJ F₁ N₁
  · rintro m₁ nx h tk ⟨rfl, ⟨a, e, ta, te, ha, he, hJ⟩, hm⟩ F₁ N₁
    refine done m₁ a e ta te h tk hJ ?_ N₁
    rw [done_two ha he hm]; exact F₁
end
end Mine
end

-- B1
section
namespace Mine
open_top hd for PySem.Challenge.rw_fe0187_01

def B58C (prog : Program) (w : World) (K : Frag) (p : Program) (loose : List Str) (mean : ExcName → Option Value) (mg mb : Str → Option Value) : Prop :=
  ∀ (b : Array UInt8) (tb : Tok) (dp un : Nat) (gd : Option (List Code)) (cn : Str) (cs : Scope) (a : Addr) (ccd : Value) (cl : List (Str × Addr)) (outer : List Env) (A₀ : Around) (base h₀ : Heap) (L : Addr) (m : Str → Option Value) (news : List (Addr × Obj)) (s : Shared)
    (Q E : Value → Shared → Prop),
    Below A₀ base outer h₀ → Fr h₀ L s.heap m → K.In h₀ → News h₀ L s.heap news → Top p loose mean mg mb h₀ → cs.kind = .function → b.size ≤ 100 → dp + 1 < recursionLimit → un + 8 < cLine →
    (∀ t h' tk', Fr h₀ L h' m → News h₀ L h' news → Q (.str (enc (natOf b)) t) { s with heap := h', toks := tk' }) →
    wpAny (model prog w) (ktrTop dp un gd cn cs L a ccd cl outer) (call (.ref 21) [.bytes b tb]) Q E s

theorem alpha_cut : ∀ d, d < 58 → Txt.slice (Str.ofString "123456789ABCDEFGHJKLMNPQRSTUVWXYZabcdefghijkmnopqrstuvwxyz") (some ((d : Nat) : Int)) (some (((d : Nat) : Int) + 1)) = ⟨#[sg d]⟩ := by decide +kernel
theorem alpha_cut2 {i : Int} (h0 : 0 ≤ i) (h1 : i < 58) : Txt.slice (Str.ofString "123456789ABCDEFGHJKLMNPQRSTUVWXYZabcdefghijkmnopqrstuvwxyz") (some i) (some (i + 1)) = ⟨#[sg i.toNat]⟩ := by
  have := alpha_cut i.toNat (by omega)
  have e : ((i.toNat : Nat) : Int) = i := by omega
  rw [e] at this; exact this

theorem shl_fits {i n : Nat} (hi : i < n) (hn : n ≤ 100) : (Builtin.Int.intBits ((256 ^ i : Nat) : Int) : Int) + 8 ≤ 2 ^ 27 := by
  have h1 : ((256 ^ i : Nat) : Int).natAbs.log2 ≤ 800 := by
    rw [Int.natAbs_natCast]
    have h2 : 256 ^ i < 2 ^ 801 := by
      have : (2:Nat) ^ 800 = 256 ^ 100 := by decide +kernel
      have h3 : 256 ^ i ≤ 256 ^ 100 := Nat.pow_le_pow_right (by decide) (by omega)
      rw [← this] at h3
      exact Nat.lt_of_le_of_lt h3 (Nat.pow_lt_pow_right (by decide) (by decide))
    have hne : 256 ^ i ≠ 0 := Nat.ne_of_gt (Nat.pow_pos (by decide))
    have := (Nat.log2_lt hne).mpr h2
    omega
  unfold Builtin.Int.intBits
  split <;> omega

local macro_rules | `(tactic| walk_at "binaryOp LShift int int") => `(tactic| (k_here; (refine lshift_int (by decide) (by assumption) ?_)))
theorem turn_lemma {N : Nat} {a : Int} {x : Str} (h0 : 0 ≤ a) (hw : WI N a x) (hne : a ≠ 0) (hN : (dig N).length ≤ 800) :
    0 ≤ a.fdiv 58 ∧ (Txt.slice (Str.ofString "123456789ABCDEFGHJKLMNPQRSTUVWXYZabcdefghijkmnopqrstuvwxyz") (some (a.fmod 58)) (some (a.fmod 58 + 1)) ++ x).length ≤ 800 ∧ WI N (a.fdiv 58) (Txt.slice (Str.ofString "123456789ABCDEFGHJKLMNPQRSTUVWXYZabcdefghijkmnopqrstuvwxyz") (some (a.fmod 58)) (some (a.fmod 58 + 1)) ++ x) := by
  obtain ⟨e1, e2⟩ := fd58 h0
  have := hw.turn h0 hne (alpha_cut2 (i := a.fmod 58) (by omega) (by omega))
  refine ⟨by omega, ?_, this⟩
  have := this.len hN
  omega
theorem start_lemma {N : Nat} {a : Int} (h : a = (N : Int)) : 0 ≤ a ∧ (Str.ofString "").length ≤ 800 ∧ WI N a (Str.ofString "") := by
  subst h
  exact ⟨by omega, by decide, WI.first N⟩
theorem pow_step {e : Int} {i : Nat} (he : e = ((256 ^ i : Nat) : Int)) : e * 2 ^ (8 : Int).toNat = ((256 ^ (i + 1) : Nat) : Int) := by
  rw [he, Nat.pow_succ]; push_cast; rfl
theorem upto_step {a e : Int} {b : Array UInt8} {i : Nat} {c : UInt8} (ha : a = (upto b i : Int)) (he : e = ((256 ^ i : Nat) : Int)) (hi : i < b.size) (hc : b[b.size - 1 - i]? = some c) : a + e * (c.toNat : Int) = (upto b (i + 1) : Int) := by
  rw [ha, he, upto_succ hi hc]; push_cast; rfl
theorem News.tail {h₀ h : Heap} {L : Addr} {p : Addr × Obj} {news : List (Addr × Obj)} (N : News h₀ L h (p :: news)) : News h₀ L h news := fun q hq => N q (List.mem_cons_of_mem _ hq)
theorem last_lemma {N : Nat} {a : Int} {x : Str} {t : Tok} {h₀ h' : Heap} {L : Addr} {m : Str → Option Value} {news : List (Addr × Obj)} {s : Shared} {tk' : Nat} {Q : Value → Shared → Prop} (hw : WI N a x) (hz : a = 0)
    (hret : ∀ t h' tk', Fr h₀ L h' m → News h₀ L h' news → Q (.str (enc N) t) { s with heap := h', toks := tk' }) (F : Fr h₀ L h' m) (N' : News h₀ L h' news) : Q (.str x t) { s with heap := h', toks := tk' } := by
  subst hz
  rw [hw.last]
  exact hret _ _ _ F N'
theorem meas_lemma {a : Int} (h : 0 ≤ a) (hne : a ≠ 0) : (a.fdiv 58).toNat < a.toNat := by
  obtain ⟨e1, e2⟩ := fd58 h
  omega

theorem b58c (w : World) (mean : ExcName → Option Value) (mg mb : Str → Option Value) : B58C PySem.Challenge.rw_fe0187_01.row.prog w (hd.heap_39 w.params) hd.view_39 (looseW hd.view_39 []) mean mg mb := by
  k_with "exec While Name cons nil" => k_while (fun _ acc string => 0 ≤ acc ∧ string.length ≤ 800 ∧ WI (natOf b) acc string) (fun _ acc _ => acc.toNat) "acc" "string"
  k_with "state" => exact start_lemma (by assumption)
  unfold B58C
  intro b tb dp un gd cn cs a ccd cl outer A₀ base h₀ L m news s Q E B F X N T hk hb hdp hu hret
  have hN := dig_natOf hb
  refine wpAny_call ?_
  k_dflt cell_enter
  k_steps
  (rename Fr _ _ _ _ => lF'); (rename News _ _ _ _ => lN')
  with_unfolding_all refine' rev_for2 (y := Str.ofString "acc") (y' := Str.ofString "p") (fun i a e => e = ((256 ^ i : Nat) : Int) ∧ a = (upto b i : Int)) (by omega) (by rfl) lF' lN' (by rfl) (by rfl) ?h0 ?turn ?done
  case h0 => exact ⟨by simp, by rw [upto_zero]; rfl⟩
  case turn =>
    clear lF' lN'
    rintro i c t a ta e te h tk own hc hi hoff ⟨he, ha⟩ F' N'
    have hsz : (Builtin.Int.intBits e : Int) + 8 ≤ 2 ^ 27 := by rw [he]; exact shl_fits hi hb
    have hc1 : (c.toNat : Int) < 256 := by have := c.toNat_lt; omega
    have hc0 : 0 ≤ (c.toNat : Int) := by omega
    (try dsimp only); (try k_fold)
    k_steps
    refine InvEndN.intro (by assumption) (by assumption) ⟨rfl, ⟨_, _, _, _, rfl, rfl, ?_, ?_⟩, ?_⟩ rfl ?_ ?_
    · exact pow_step he
    · exact upto_step ha he hi hc
    · intro z h1 h2 h3; simp [h1, h2, h3]
    · intro p hp; exact List.mem_append_left _ hp
    · intro p hp; exact List.mem_append_right _ hp
  case done =>
    clear lF' lN'
    rintro u a e t t' h tk ⟨he, ha⟩ F' N'
    rw [upto_all] at ha
    (try dsimp only); (try k_fold)
    k_steps
    · (rename News _ _ _ _ => nE')
      refine ksw_end ⟨_, _, _, _⟩ (by assumption) nE' (by intro p hp; exact List.mem_cons_of_mem _ hp) trivial (by kst_all) (by ksw_same) (by exact turn_lemma (by assumption) (by assumption) (by assumption) hN) (by exact meas_lemma (by assumption) (by assumption))
    · refine last_lemma (by assumption) (by assumption) hret (by assumption) (News.tail (by assumption))
end Mine
end

-- R1
section
namespace Mine

def ReadC (prog : Program) (w : World) (K : Frag) (p : Program) (loose : List Str) (mean : ExcName → Option Value) (mg mb : Str → Option Value) : Prop :=
  ∀ (n : Nat) (tb : Tok) (dp un : Nat) (gd : Option (List Code)) (cn : Str) (cs : Scope) (a : Addr) (ccd : Value) (cl : List (Str × Addr)) (outer : List Env) (A₀ : Around) (base h₀ : Heap) (L : Addr) (m : Str → Option Value) (news : List (Addr × Obj)) (s : Shared)
    (Q E : Value → Shared → Prop),
    Below A₀ base outer h₀ → Fr h₀ L s.heap m → K.In h₀ → News h₀ L s.heap news → Top p loose mean mg mb h₀ → cs.kind = .function → (dig n).length ≤ 800 → dp + 1 < recursionLimit → un + 8 < cLine →
    (∀ t h' tk', Fr h₀ L h' m → News h₀ L h' news → Q (.int (n : Int) t) { s with heap := h', toks := tk' }) →
    wpAny (model prog w) (ktrTop dp un gd cn cs L a ccd cl outer) (call (.ref 35) [.str (enc n) tb]) Q E s

local macro_rules | `(tactic| walk_at "exec For Name Name cons nil") => `(tactic| (k_here; (rename Fr _ _ _ _ => lF'); (with_unfolding_all refine' For_invVF lF' ?k1 ?k2 ?_; (case k1 => exact rfl); (case k2 => exact rfl); k_whole)))

def LSIGNS : Str := Str.ofString "123456789ABCDEFGHJKLMNPQRSTUVWXYZabcdefghijkmnopqrstuvwxyz"
theorem find_sg : ∀ d, d < 58 → Txt.find LSIGNS ⟨#[sg d]⟩ = ((d : Nat) : Int) := by decide +kernel
def rd (pre : List Int) : Int := pre.foldl (fun a c => a * 58 + Txt.find LSIGNS ⟨#[c.toNat]⟩) 0
theorem rd_snoc {pre : List Int} {n : Nat} {f : Int} (h : f = rd pre) : f * 58 + Txt.find (Str.ofString "123456789ABCDEFGHJKLMNPQRSTUVWXYZabcdefghijkmnopqrstuvwxyz") ⟨#[n]⟩ = rd (pre ++ [(n : Int)]) := by
  rw [h]; unfold rd; rw [List.foldl_append]; rfl
theorem find_nn (d : Nat) (h : d < 58) : ¬ Txt.find (Str.ofString "123456789ABCDEFGHJKLMNPQRSTUVWXYZabcdefghijkmnopqrstuvwxyz") ⟨#[sg d]⟩ < 0 := by
  have := find_sg d h
  unfold LSIGNS at this
  omega
theorem same_lemma {x y a z : Str} {va vx vf : Option Value} {pf : Value} {u m₀ : Str → Option Value} (h1 : z ≠ x) (h2 : z ≠ y) (h3 : [a].contains z = false) :
    (if z = y then vf else if z = a then va else if z = x then vx else kstB (fun z => if [a].contains z = true then u z else m₀ z) [(y, pf)] z) = m₀ z := by
  have h4 : z ≠ a := by intro e; subst e; simp at h3
  rw [if_neg h2, if_neg h4, if_neg h1]
  show (if z = y then some pf else if [a].contains z = true then u z else m₀ z) = m₀ z
  rw [if_neg h2, h3]; rfl
theorem codes_enc (n : Nat) : KStt.codes (enc n) = (dig n).map fun d => ((sg d : Nat) : Int) := by
  unfold KStt.codes enc; simp
theorem rd_codes (n : Nat) : rd (KStt.codes (enc n)) = (n : Int) := by
  rw [codes_enc]
  have key : ∀ (l : List Nat) (a : Nat), (∀ d ∈ l, d < 58) → (l.map fun d => ((sg d : Nat) : Int)).foldl (fun a c => a * 58 + Txt.find LSIGNS ⟨#[c.toNat]⟩) (a : Int) = ((l.foldl (fun a d => a * 58 + d) a : Nat) : Int) := by
    intro l
    induction l with
    | nil => intro a _; rfl
    | cons d r ih =>
      intro a h
      rw [List.map_cons, List.foldl_cons, List.foldl_cons, Int.toNat_natCast, find_sg d (h d (.head _)), ← ih _ fun e he => h e (.tail _ he)]
      push_cast; rfl
  have := key (dig n) 0 (dig_lt n)
  rw [dig_read] at this
  exact this
theorem code_sg {N : Nat} {pre post : List Int} {n : Nat} (h : KStt.codes (enc N) = pre ++ (n : Int) :: post) : ∃ d, d < 58 ∧ n = sg d := by
  have hm : (n : Int) ∈ KStt.codes (enc N) := by rw [h]; simp
  rw [codes_enc] at hm
  obtain ⟨d, hd, e⟩ := List.mem_map.mp hm
  exact ⟨d, dig_lt N d hd, by omega⟩
theorem readc (w : World) (mean : ExcName → Option Value) (mg mb : Str → Option Value) : ReadC PySem.Challenge.rw_fe0187_01.row.prog w (hd.heap_39 w.params) hd.view_39 (looseW hd.view_39 []) mean mg mb := by
  k_with_none
  unfold ReadC
  intro n tb dp un gd cn cs a ccd cl outer A₀ base h₀ L m news s Q E B F X N T hk hb hdp hu hret
  refine wpAny_call ?_
  k_dflt cell_enter
  k_steps
  (rename Fr _ _ _ _ => lF'); (rename News _ _ _ _ => lN')
  with_unfolding_all refine' KStt.kst_text (σ := Int × Tok) (fun _ => news) (fun c => [(Str.ofString "found", .int c.1 c.2)]) (fun _ => True) [Str.ofString "at"] (fun pre c => c.1 = rd pre) (0, _) (by rfl) lF' lN' trivial ?hk ?hp ?turn ?done
  case hk => kst_all
  case hp => rfl
  case turn =>
    clear lF' lN'
    rintro ⟨f, tf⟩ pre post n t u h tk own he hoff - hf F' N'
    dsimp only at hf
    obtain ⟨d, hd1, rfl⟩ := code_sg he
    have hfind := find_sg d hd1
    (try dsimp only); (try k_fold)
    k_steps
    · exact absurd (by assumption) (find_nn d hd1)
    · (rename News _ _ _ _ => nE')
      refine kst_end ⟨_, _⟩ (by assumption) nE' (by intro p hp; exact List.mem_append_left _ hp) (by intro p hp; exact List.mem_append_right _ hp) rfl trivial (by kst_all) (by intro z h1 h2 h3; exact same_lemma h1 (h2 _ (.head _)) h3) (by exact rd_snoc hf)
  case done =>
    clear lF' lN'
    rintro ⟨f, tf⟩ u h tk - hf F' N'
    dsimp only at hf
    rw [rd_codes] at hf
    (try dsimp only); (try k_fold)
    k_steps
    rw [hf]
    exact hret _ _ _ (by assumption) (by assumption)
end Mine
end

-- N1
section
namespace Mine


def numOf (ns : List Int) (i : Int) : Int := if i < (ns.length : Int) then ns.getD i.toNat 0 else i * 37 + 5

theorem num_in {ns : List Int} {i : Int} (h : i < (ns.length : Int)) : ns.getD i.toNat 0 = numOf ns i := by unfold numOf; rw [if_pos h]
theorem num_out {ns : List Int} {i : Int} (h : ¬ i < (ns.length : Int)) : i * 37 + 5 = numOf ns i := by unfold numOf; rw [if_neg h]
def NumC (prog : Program) (w : World) (K : Frag) (p : Program) (loose : List Str) (mean : ExcName → Option Value) (mg mb : Str → Option Value) : Prop :=
  ∀ (i : Int) (tk : Tok) (dp un : Nat) (gd : Option (List Code)) (cn : Str) (cs : Scope) (a : Addr) (ccd : Value) (cl : List (Str × Addr)) (outer : List Env) (A₀ : Around) (base h₀ : Heap) (L : Addr) (m : Str → Option Value) (news : List (Addr × Obj)) (s : Shared) (l : Addr) (vs : List Value) (ns : List Int)
    (Q E : Value → Shared → Prop),
    Below A₀ base outer h₀ → Fr h₀ L s.heap m → K.In h₀ → News h₀ L s.heap news → Top p loose mean mg mb h₀ → cs.kind = .function → base.IsList l vs.toArray → IntsAre vs ns → ns.length < 2 ^ 62 → 0 ≤ i → dp + 1 < recursionLimit → un + 8 < cLine →
    (∀ t h' tk', Fr h₀ L h' m → News h₀ L h' news → Q (.int (numOf ns i) t) { s with heap := h', toks := tk' }) →
    wpAny (model prog w) (ktrTop dp un gd cn cs L a ccd cl outer) (call (.ref 28) [.ref l, .int i tk]) Q E s

theorem numc (w : World) (mean : ExcName → Option Value) (mg mb : Str → Option Value) : NumC PySem.Challenge.rw_fe0187_01.row.prog w (hd.heap_39 w.params) hd.view_39 (looseW hd.view_39 []) mean mg mb := by
  k_with_none
  unfold NumC
  intro i tk dp un gd cn cs a ccd cl outer A₀ base h₀ L m news s l vs ns Q E B F X N T hk hl hi hfit h0 hdp hu hret
  refine wpAny_call ?_
  k_dflt cell_enter
  k_steps
  · rw [num_in (by assumption)]
    exact hret _ _ _ (by assumption) (by assumption)
  · rw [num_out (by assumption)]
    exact hret _ _ _ (by assumption) (by assumption)
end Mine
end

-- Loop
section
namespace Mine
open PySem.Calls PyProof.V PySem.Spec
section
variable {prog : Program} {w : World} {A : Around} {E : Value → Shared → Prop} {s : Shared} {env : Env} {h₀ : Heap} {x : PySem.Str} {px : Pos} {body : List Stmt} {Q : Flow → Shared → Prop}

theorem iter_range2 {r : Addr} {t₀ u₀ v₀ : Tok} {m₀ : PySem.Str → Option Value} {news : List (Addr × Obj)}
    (hh : A.handled = none) (hr : IsRange s.heap r 0 2 1 t₀ u₀ v₀) (F : Fr h₀ env.locals s.heap m₀) (N : News h₀ env.locals s.heap news)
    (rest₀ : ∀ I : Addr, (∀ p ∈ news, p.1 < I) → ItemsRest prog w A E h₀ env (.Name x px) body Q s [(I, "range_iterator")] [] [.tok (fun t => .int 0 t), .tok (fun t => .int 1 t)] m₀ news) :
    wpAny (model prog w) A (pyIter (.ref r)) (fun it s₂ => TurnsAt prog w A h₀ env (.Name x px) body Q E it s₂) E s := by
  have hn : Builtin.Range.rangeSize 0 2 1 = ((2 : Nat) : Int) := by decide
  refine wpAny_pyIter_range hr (by decide) ?_
  have W : Walks prog w A s.heap.objs.size [s.heap.objs.size] [s.heap.objs.size] 2 (fun i v => i < 2 ∧ ∃ t, v = .int (0 + i * 1) t)
      (fun i h => IsRangeIter h s.heap.objs.size (0 + (i : Nat) * 1) (((2 : Nat) : Int) - (i : Nat)) 1) := (Walks.range hh _ 0 1 2).bound
  refine ktu_core (tk0 := s.toks) (keep := []) (KTurns.ofWalks W fun i v s Q E st q => wpAny_of_eq (a := ()) (by rfl) q) rfl (fun i v h hp => ?_) (fun i h st => ?_) (fun b hb => ?_) (fun b hb => by simpa using hb) (fun b hb => ?_) ?_ (fun p hp hI => ?_)
    (by show IsRangeIter _ _ _ _ _; rw [hn]; simpa using Heap.get?_push_size _ rfl) (F.push _) (fun p hp => ⟨Heap.get?_push_of_some _ (N p hp).1, (N p hp).2⟩) trivial (rest₀ _ fun p hp => Heap.lt_size (N p hp).1)
  · obtain ⟨hi, t, rfl⟩ := hp
    have : i = 0 ∨ i = 1 := by omega
    rcases this with rfl | rfl
    · exact ⟨_, rfl, t, rfl⟩
    · exact ⟨_, rfl, t, rfl⟩
  · exact ⟨[(s.heap.objs.size, _)], ⟨⟨rfl, rfl⟩, trivial⟩, fun p hp => by rw [List.mem_singleton.mp hp]; exact st⟩
  · have hb' : b = s.heap.objs.size := by simpa using hb
    rw [hb']
    exact ⟨List.mem_cons_self .., next_is_new F⟩
  · have hb' : b = s.heap.objs.size := by simpa using hb
    exact .inl (by simp [hb'])
  · intro hI
    exact absurd F.ns.lt ((List.mem_singleton.mp hI) ▸ Nat.lt_irrefl _)
  · exact absurd (Heap.lt_size (N p hp).1) ((List.mem_singleton.mp hI) ▸ Nat.lt_irrefl _)
end
end Mine
end

-- Use
section
namespace Mine
section
variable {w : World} {mean : ExcName → Option Value} {mg mb : Str → Option Value} {dp un : Nat} {gd : Option (List Code)} {cn : Str} {cs : Scope} {a : Addr} {ccd : Value} {cl : List (Str × Addr)} {outer : List Env} {A₀ : Around} {base h₀ : Heap} {L : Addr} {m : Str → Option Value} {news : List (Addr × Obj)} {s : Shared} {Q E : Value → Shared → Prop}
theorem b58_use {b : Array UInt8} {tb : Tok}
    (B : Below A₀ base outer h₀) (F : Fr h₀ L s.heap m) (X : (hd.heap_39 w.params).In h₀) (N : News h₀ L s.heap news) (T : Top hd.view_39 (looseW hd.view_39 []) mean mg mb h₀) (hk : cs.kind = .function) (hb : b.size ≤ 100) (hd' : dp + 1 < recursionLimit) (hu : un + 8 < cLine)
    (hret : ∀ t h' tk', Fr h₀ L h' m → News h₀ L h' news → Q (.str (enc (natOf b)) t) { s with heap := h', toks := tk' }) :
    wpAny (model PySem.Challenge.rw_fe0187_01.row.prog w) (ktrTop dp un gd cn cs L a ccd cl outer) (call (.ref 21) [.bytes b tb]) Q E s :=
  b58c w mean mg mb b tb dp un gd cn cs a ccd cl outer A₀ base h₀ L m news s Q E B F X N T hk hb hd' hu hret
theorem read_use {n : Nat} {tb : Tok}
    (B : Below A₀ base outer h₀) (F : Fr h₀ L s.heap m) (X : (hd.heap_39 w.params).In h₀) (N : News h₀ L s.heap news) (T : Top hd.view_39 (looseW hd.view_39 []) mean mg mb h₀) (hk : cs.kind = .function) (hb : (dig n).length ≤ 800) (hd' : dp + 1 < recursionLimit) (hu : un + 8 < cLine)
    (hret : ∀ t h' tk', Fr h₀ L h' m → News h₀ L h' news → Q (.int (n : Int) t) { s with heap := h', toks := tk' }) :
    wpAny (model PySem.Challenge.rw_fe0187_01.row.prog w) (ktrTop dp un gd cn cs L a ccd cl outer) (call (.ref 35) [.str (enc n) tb]) Q E s :=
  readc w mean mg mb n tb dp un gd cn cs a ccd cl outer A₀ base h₀ L m news s Q E B F X N T hk hb hd' hu hret
theorem num_use {i : Int} {tk : Tok} {l : Addr} {vs : List Value} {ns : List Int}
    (B : Below A₀ base outer h₀) (F : Fr h₀ L s.heap m) (X : (hd.heap_39 w.params).In h₀) (N : News h₀ L s.heap news) (T : Top hd.view_39 (looseW hd.view_39 []) mean mg mb h₀) (hk : cs.kind = .function) (hl : base.IsList l vs.toArray) (hi : IntsAre vs ns) (hfit : ns.length < 2 ^ 62) (h0 : 0 ≤ i) (hd' : dp + 1 < recursionLimit) (hu : un + 8 < cLine)
    (hret : ∀ t h' tk', Fr h₀ L h' m → News h₀ L h' news → Q (.int (numOf ns i) t) { s with heap := h', toks := tk' }) :
    wpAny (model PySem.Challenge.rw_fe0187_01.row.prog w) (ktrTop dp un gd cn cs L a ccd cl outer) (call (.ref 28) [.ref l, .int i tk]) Q E s :=
  numc w mean mg mb i tk dp un gd cn cs a ccd cl outer A₀ base h₀ L m news s l vs ns Q E B F X N T hk hl hi hfit h0 hd' hu hret
end
end Mine
end

-- Byt
section
namespace Mine
open PySem.Calls PyProof.V PySem.Spec

theorem int_no_bytes : typeLookup (.type "int") "__bytes__" = pure none := by rw [typeLookup_type, builtinLookup_eq_fast]; kernel_rfl
theorem meets_bytes_int (n : Int) (t : Tok) (h0 : 0 ≤ n) (h1 : n ≤ 1000) :
    Meets (Builtin.«bytes.__new__» ⟨[.type "bytes", .int n t], []⟩) (fun _ R s =>
      R (.ok (.ret (.bytes (Array.replicate n.toNat 0) s.toks))) { s with toks := s.toks + 1 }) :=
  .of_wp fun prog w A R s h => by
    unfold Builtin.«bytes.__new__»
    refine wpAny_bind (wpAny_of_eq (a := true) rfl ?_)
    refine KFB.if_not rfl ?_
    refine wpAny_bind (wpAny_of_eq F.bm_sub ?_)
    refine KFB.if_not rfl ?_
    refine wpAny_bind (wpAny_of_eq (F.bm_bind _) ?_)
    refine wpAny_bind (wpAny_of_eq (a := ()) rfl ?_)
    refine wpAny_bind (wpAny_of_eq (a := ()) rfl ?_)
    refine KFB.if_not rfl ?_
    refine wpAny_bind (wpAny_specialOf (typeIs_int s n t) int_no_bytes ?_)
    dsimp only
    refine wpAny_bind ?_
    refine wpAny_bind (wpAny_of_eq (a := none) rfl ?_)
    refine wpAny_pure ?_
    refine KFB.if_not rfl ?_
    refine wpAny_bind (wpAny_specialOf (typeIs_int s n t) F.slot_int_index.lookup ?_)
    refine KFB.if_not rfl ?_
    refine wpAny_bind (wpAny_attempt (wpAny_of_eq (rfl : asIndex (.int n t) = pure n) ?_))
    dsimp only
    refine KFB.if_not ?_ ?_
    · simp only [Builtin.Bytes.fitsIndex, Bool.not_eq_false', Bool.and_eq_true, decide_eq_true_eq]; omega
    rw [if_neg (by omega), if_neg (by omega)]
    refine KFB.if_not ?_ ?_
    · simp only [Builtin.Bytes.tooLong, decide_eq_false_iff_not]
      have : sizeLine = 16777216 := by decide
      omega
    refine wpAny_bind (wpAny_rule ?_)
    refine wpAny_bind (wpAny_mkBytes ?_ (by
      have : sizeLine = 16777216 := by decide
      rw [Array.size_replicate]; omega))
    show wpAny _ _ (if (Value.type "bytes" == Value.type "bytes") = true then _ else _) _ _ _
    refine KFB.if_so (by decide) ?_
    first
      | exact wpAny_pure ⟨_, rfl, h⟩
      | exact wpAny_bind (wpAny_pure ⟨_, rfl, h⟩)

section
variable {prog : Program} {w : World} {A : Around} {E : Value → Shared → Prop} {s : Shared} {h₀ : Heap} {L D : Addr} {m : PySem.Str → Option Value} {news : List (Addr × Obj)} {vs : List Value} {ns : List Int} {b c : Array UInt8} {t u : Tok}

/-- the noughts ahead -/
theorem bytes_int {n : Int} {Q : Value → Shared → Prop} (h0 : 0 ≤ n) (h1 : n ≤ 1000) (h : ∀ t' k, Q (.bytes (Array.replicate n.toNat 0) t') { s with toks := k }) :
    wpAny (model prog w) A (call (.type "bytes") [.int n t]) Q E s :=
  callType_new F.bm_called (by decide) (F.bm_typeCall _) (F.bm_newCall _) (fun obj => F.args_object_init_2 obj _) F.bm_entry
    (meets_bytes_int n t h0 h1) ⟨typeIs_bytes _ _ _, h _ _⟩

/-- the octets, whatever they are -/
theorem mk_any {Q : Value → Shared → Prop} (F : Fr h₀ L s.heap m) (N : News h₀ L s.heap news) (hh : A.handled = none) (hl : s.heap.IsList D vs.toArray) (hi : IntsAre vs ns) (hr : KBa.In ns) (hn : ns.length ≤ 40)
    (h : ∀ (b : Array UInt8) h' t' k, b.size ≤ 40 → Fr h₀ L h' m → News h₀ L h' news → Q (.bytes b t') { s with heap := h', toks := k }) : wpAny (model prog w) A (call (.type "bytes") [.ref D]) Q E s :=
  KBa.make_K F N hh hl hi hr (by omega) fun h' t' k F' N' _ => h _ h' t' k (by rw [byteArr_size]; exact hn) F' N'

theorem add_any {Q : Value → Shared → Prop} (hsz : b.size + c.size ≤ 1000) (h : ∀ t' k, Q (.bytes (b ++ c) t') { s with toks := k }) : wpAny (model prog w) A (binaryOp .Add (.bytes b t) (.bytes c u)) Q E s :=
  KBa.add_K rfl rfl (by rw [KBw.ints_length, KBw.ints_length]; omega) fun t' k _ => h t' k

theorem fb_tree {b : Array UInt8} {t u : Tok} {M : Model} {P : Fin → Shared → Prop} (hl : b.size ≤ 1000) (h : P (.done (.ret (.int (natOf b : Int) s.toks))) { s with toks := s.toks + 1 }) :
    wpAny M A (Builtin.«int.from_bytes» ⟨[.type "int", .bytes b t, .str (PySem.Str.ofString "big") u], []⟩) P E s := by
  unfold Builtin.«int.from_bytes»
  refine wpAny_bind (wpAny_of_eq (a := true) KFB.type_int ?_)
  refine KFB.if_not rfl ?_
  refine wpAny_bind (wpAny_of_eq (a := true) F.conv_sub_int ?_)
  refine KFB.if_not rfl ?_
  refine wpAny_bind (wpAny_of_eq (a := [some (.bytes b t), some (.str (PySem.Str.ofString "big") u), none]) (by kernel_rfl) ?_)
  refine wpAny_bind (wpAny_of_eq (a := PySem.Str.ofString "big") (by kernel_rfl) ?_)
  refine wpAny_bind (wpAny_of_eq (a := false) rfl ?_)
  refine wpAny_bind (wpAny_of_eq (a := false) (by kernel_rfl) ?_)
  refine wpAny_bind (wpAny_of_eq (a := b) rfl ?_)
  show wpAny _ _ (mkIntGrown (b.toList.foldl (fun (acc : Int) (b : UInt8) => acc * 256 + (b.toNat : Int)) ((0 : Nat) : Int)) >>= fun v => _) _ _ _
  rw [KFB.foldI_eq]
  have hlog : ¬ (((natOf b : Nat) : Int).natAbs.log2 ≥ bitsLine) := by
    rw [Int.natAbs_natCast]
    have hb : bitsLine = 134217728 := by decide
    by_cases hz : natOf b = 0
    · rw [hz, hb]; decide
    · have h1 : natOf b < 2 ^ 8000 := by
        refine Nat.lt_of_lt_of_le (natOf_lt b) ?_
        have e : 256 ^ b.size = 2 ^ (8 * b.size) := by rw [Nat.pow_mul]
        rw [e]
        exact Nat.pow_le_pow_right (by decide) (by omega)
      have := (Nat.log2_lt hz).mpr h1
      omega
  refine wpAny_bind ?_
  show wpAny _ _ (mkIntGrown ((natOf b : Nat) : Int)) _ _ _
  unfold mkIntGrown
  rw [if_neg hlog]
  refine wpAny_mkInt ?_
  refine KFB.if_so (by decide +kernel) ?_
  exact wpAny_bind (wpAny_pure (wpAny_pure h))

theorem fb_any {x : Addr} {Q : Value → Shared → Prop} (N : News h₀ L s.heap news) (hm : (x, KFB.bound) ∈ news) (hl : b.size ≤ 1000)
    (h : ∀ t' k, Q (.int (natOf b : Int) t') { s with toks := k }) : wpAny (model prog w) A (call (.ref x) [.bytes b t, .str (PySem.Str.ofString "big") u]) Q E s :=
  KFB.call_of (KFB.at_of N hm) (fun z => fb_tree hl z) (h _ _)
end

theorem natOf_zeros (k : Nat) (b : Array UInt8) : natOf (Array.replicate k 0 ++ b) = natOf b := by
  unfold natOf
  rw [Array.toList_append, List.foldl_append]
  have : (Array.replicate k (0 : UInt8)).toList.foldl (fun (acc : Nat) (c : UInt8) => acc * 256 + c.toNat) 0 = 0 := by
    rw [Array.toList_replicate]
    induction k with
    | zero => rfl
    | succ k ih => rw [List.replicate_succ, List.foldl_cons]; exact ih
  rw [this]
end Mine
end

-- Cmp
section
namespace Mine
open PySem.Calls PyProof.V PySem.Spec
theorem enc_length (n : Nat) : (enc n).length = (dig n).length := by
  show ((dig n).map sg).toArray.size = _
  simp
theorem enc_fits {b : Array UInt8} (h : b.size ≤ 100) : (enc (natOf b)).length ≤ sizeLine := by
  rw [enc_length, sizeLine_eq]
  have := dig_natOf h
  omega
theorem enc_empty (n : Nat) : (enc n == Str.ofString "") = decide (n = 0) := by
  have e0 : (Str.ofString "") = (⟨#[]⟩ : Str) := by decide +kernel
  rw [e0]
  by_cases h : n = 0
  · subst h
    have : enc 0 = ⟨#[]⟩ := by unfold enc; rw [dig_zero]; rfl
    rw [this]; decide
  · have hne : enc n ≠ ⟨#[]⟩ := by
      intro e
      have h1 := congrArg Str.length e
      rw [enc_length] at h1
      have h2 : (dig n).length = 0 := h1
      exact h (dig_nil.mp (List.length_eq_zero_iff.mp h2))
    simp [h, hne]
theorem cut_one (n : Nat) : (Txt.slice (enc n) none (some 1) == Str.ofString "1") = false := by
  have e1 : (Str.ofString "1") = (⟨#[49]⟩ : Str) := by decide +kernel
  rw [e1]
  by_cases h : n = 0
  · subst h
    have : enc 0 = ⟨#[]⟩ := by unfold enc; rw [dig_zero]; rfl
    rw [this]; decide +kernel
  · have hl : 1 ≤ (dig n).length := by
      rcases Nat.eq_zero_or_pos (dig n).length with h1 | h1
      · exact absurd (dig_nil.mp (List.length_eq_zero_iff.mp h1)) h
      · exact h1
    have hs := slice_closes_to (x := enc n) (j := 1) ⟨by decide, by rw [Array.length_toList]; have := enc_length n; unfold Str.length at this; omega⟩
    have hs' := beq_iff_eq.mp hs
    rw [hs']
    rw [beq_eq_false_iff_ne]
    intro e
    have e2 := congrArg (fun x : Str => x.cps.toList) e
    have hh := dig_head n
    cases hd : dig n with
    | nil => rw [hd] at hl; simp at hl
    | cons d r =>
      have hd58 := dig_lt n d (by rw [hd]; exact .head _)
      have e3 : (enc n).cps.toList = sg d :: r.map sg := by unfold enc; rw [hd]; rfl
      simp only [e3] at e2
      have e4 : sg d = 49 := by simpa using e2
      have : d = 0 := sg_inj d hd58 0 (by decide) e4
      rw [hd, this] at hh
      exact hh rfl
section
variable {prog : Program} {w : World} {A : Around} {E : Value → Shared → Prop} {s : Shared} {t u : Tok} {n : Nat} {Q : Value → Shared → Prop}
theorem cmp_one (h : Q (.bool false) s) : wpAny (model prog w) A (compareOp .Eq (.str (Txt.slice (enc n) none (some 1)) t) (.str (Str.ofString "1") u)) Q E s :=
  PyProof.Rows.eq_str (by rw [cut_one]; exact h)
theorem cmp_empty (h : Q (.bool (decide (n = 0))) s) : wpAny (model prog w) A (compareOp .Eq (.str (enc n) t) (.str (Str.ofString "") u)) Q E s :=
  PyProof.Rows.eq_str (by rw [enc_empty]; exact h)
theorem cmp_zero (h : Q (.bool (decide (n = 0))) s) : wpAny (model prog w) A (compareOp .Eq (.int ((n : Nat) : Int) t) (.int 0 u)) Q E s :=
  PyProof.Rows.eq_int (by
    have : (((n : Nat) : Int) == 0) = decide (n = 0) := by
      by_cases h : n = 0
      · subst h; rfl
      · have h2 : ((n : Nat) : Int) ≠ 0 := by omega
        simp [h]
    rw [this]; exact h)
theorem cmp_bools {c : Bool} (h : Q (.bool false) s) : wpAny (model prog w) A (compareOp .NotEq (.bool c) (.bool c)) Q E s :=
  PyProof.Rows.ne_bool (by simpa using h)
theorem cmp_texts {x : Str} (h : Q (.bool false) s) : wpAny (model prog w) A (compareOp .NotEq (.str x t) (.str x u)) Q E s :=
  PyProof.Rows.ne_str (by simpa using h)
theorem cmp_ints {x : Int} (h : Q (.bool false) s) : wpAny (model prog w) A (compareOp .NotEq (.int x t) (.int x u)) Q E s :=
  PyProof.Rows.ne_int (by simpa using h)
end
end Mine
namespace Mine
theorem find_all (n : Nat) : ((enc n).cps.toList.map fun c => Txt.find (Str.ofString "123456789ABCDEFGHJKLMNPQRSTUVWXYZabcdefghijkmnopqrstuvwxyz") ⟨#[c]⟩) = (dig n).map fun d => ((d : Nat) : Int) := by
  have key : ∀ d, d < 58 → Txt.find (Str.ofString "123456789ABCDEFGHJKLMNPQRSTUVWXYZabcdefghijkmnopqrstuvwxyz") ⟨#[sg d]⟩ = ((d : Nat) : Int) := by decide +kernel
  have e : (enc n).cps.toList = (dig n).map sg := by unfold enc; rfl
  rw [e, List.map_map]
  exact List.map_congr_left fun d hd => key d (dig_lt n d hd)
end Mine
end

-- Comp
section
namespace Mine
open PySem.Calls PyProof.V PySem.Spec
section
variable {prog : Program} {w : World} {A : Around} {E : Value → Shared → Prop} {s : Shared} {h₀ : Heap} {L : Addr} {m : PySem.Str → Option Value} {env : Env} {elt : PySem.Expr} {x : PySem.Str} {scope : Scope} {cl : List (PySem.Str × Addr)}

def TxtSrc (prog : Program) (w : World) (A : Around) (h₀ : Heap) (L : Addr) (m : PySem.Str → Option Value) (env : Env) (elt : PySem.Expr) (x : PySem.Str) (scope : Scope) (cl : List (PySem.Str × Addr)) (Fin : Shared → List Value → List (Addr × Obj) → Prop) (xv : Value) (s₁ : Shared) : Prop :=
  ∃ xt tx news, xv = .str xt tx ∧ A.handled = none ∧ Fr h₀ L s₁.heap m ∧ News h₀ L s₁.heap news ∧ xt.length ≤ sizeLine ∧
    ∀ s₂ : Shared, (∃ h, s₂ = { s₁ with heap := h }) → LCg.CompRest prog w A h₀ L m env elt x scope cl s₂ (fun _ => True) (SignAt xt) (Fin s₂) xt.cps.size 0 [] news

theorem iter_st {I : Addr} {ty : String} {xt : PySem.Str} {tx : Tok} : ∀ i (h h' : Heap) (o : Obj) (nw : List (Addr × Obj)), h.IsStrIter I ty xt tx i → h.get? I = some o → h'.get? I = some o → (∀ b o, h₀.get? b = some o → h'.get? b = some o) → News h₀ L h' nw → True → h'.IsStrIter I ty xt tx i :=
  fun i h h' o nw st e e' _ _ _ => by
    obtain ⟨o', q, r⟩ := st
    rw [e] at q; cases q
    exact ⟨o, e', r⟩

theorem ListComp_T {iter : PySem.Expr} {px : Pos} {pos : Pos} {Q : Value → Shared → Prop} (_F₀ : Fr h₀ L s.heap m)
    (hclos : closureFor scope env = pure cl) (hcell : ∀ y ∈ scope.names, y.2 ≠ .cell) (hkind : scope.kind = .function)
    (hnames : ∀ y ∈ scope.names, y.2 = .local → scope.names.lookup y.1 = some .local) (hx : scope.names.lookup x = some .local)
    (h : wpAny (model prog w) A (eval iter env) (TxtSrc prog w A h₀ L m env elt x scope cl (fun s₂ => LCg.FinE h₀ L m s₂ Q)) E s)
    (hs : ∀ x, foldedSetIterable iter env x = pure x := by intro _; rfl) :
    wpAny (model prog w) A (eval (.ListComp elt [⟨.Name x px, iter, [], 0⟩] scope pos) env) Q E s := by
  rw [eval_ListComp]
  refine wpAny_comprehension_free (use := none) rfl hs hclos hkind hnames (wpAny_mono h (fun xv s₁ h₁ => ?_) fun _ _ e => e)
  obtain ⟨xt, tx, news, rfl, hh, F, N, hsz, R⟩ := h₁
  have fin : ∀ (s₂ : Shared) (D C : Addr) (h : Heap) (tk : Nat) (m' : PySem.Str → Option Value) (ys : List Value) (news' : List (Addr × Obj)), Fr h₀ L h m → News h₀ L h ((D, LCg.lst ys) :: news') → LCg.Off1 D news' → h.Ns C m' → h₀.get? C = none → h₀.get? D = none → C ≠ L → D ≠ L → C ≠ D → (∀ p ∈ news', p.1 ≠ C) → LCg.FinE h₀ L m s₂ Q ys news' →
      ∃ m', h.Ns C m' ∧ ∀ h'', Heap.SameBut C h h'' → Q (.ref D) { s₂ with heap := h'', toks := tk } := by
    intro s₂ D C h tk m' ys news' F' N' o1 hn hC₀ hD₀ hCL hDL hCD offC fin
    refine ⟨m', hn, fun h'' hs'' => fin D h'' tk (F'.change hs'' hCL hC₀) (fun p hp => ?_) o1⟩
    refine ⟨hs''.extBut _ _ ?_ (N' p hp).1, (N' p hp).2⟩
    rcases List.mem_cons.mp hp with rfl | hp
    · exact Ne.symm hCD
    · exact offC p hp
  cases ha : xt.cps.all (· < 128)
  · refine wpAny_pyIter_wide ha ?_
    refine LCg.block_U (Walks.strWide hh s₁.heap.objs.size xt tx) hsz (fun i h st => by obtain ⟨o, e, _⟩ := st; exact ⟨o, e⟩) iter_st hcell hkind hx ⟨_, Heap.get?_push_size _ rfl, rfl, rfl⟩ (fun b hb => ?_)
      (F.keeps fun _ _ e => Heap.get?_push_of_some _ e) (N.grown fun _ _ e => Heap.get?_push_of_some _ e) (Nat.ne_of_lt F.ns.lt) (next_is_new F) (fun p hp => Nat.ne_of_lt (Heap.lt_size (N p hp).1)) trivial (R _ ⟨_, rfl⟩) ?_
    · rw [List.mem_singleton.mp hb]
      show s₁.heap.objs.size < (s₁.heap.push _).objs.size
      rw [Heap.size_push]; exact Nat.lt_succ_self _
    · exact fin _
  · refine wpAny_pyIter_ascii ha ?_
    refine LCg.block_U (Walks.strAscii hh s₁.heap.objs.size xt tx) hsz (fun i h st => by obtain ⟨o, e, _⟩ := st; exact ⟨o, e⟩) iter_st hcell hkind hx ⟨_, Heap.get?_push_size _ rfl, rfl, rfl⟩ (fun b hb => ?_)
      (F.keeps fun _ _ e => Heap.get?_push_of_some _ e) (N.grown fun _ _ e => Heap.get?_push_of_some _ e) (Nat.ne_of_lt F.ns.lt) (next_is_new F) (fun p hp => Nat.ne_of_lt (Heap.lt_size (N p hp).1)) trivial (R _ ⟨_, rfl⟩) ?_
    · rw [List.mem_singleton.mp hb]
      show s₁.heap.objs.size < (s₁.heap.push _).objs.size
      rw [Heap.size_push]; exact Nat.lt_succ_self _
    · exact fin _

theorem txt_rest {S : List (Addr × Obj) → Prop} {Fin : List Value → List (Addr × Obj) → Prop} {news : List (Addr × Obj)} {xt : PySem.Str} (g : Nat → Int) (ks : List Nat) (hks : xt.cps.toList = ks)
    (turn : ∀ k u I oI C oC D m₂ ys h tk (E' : Value → Shared → Prop), k ∈ ks → LCg.NsObj oC m₂ → m₂ x = some (.str ⟨#[k]⟩ u) → Fr h₀ L h m → News h₀ L h ((I, oI) :: (C, oC) :: (D, LCg.lst ys) :: news) → LCg.Off3 I C D news → ((@Ne Nat I C) ∧ (@Ne Nat I D) ∧ (@Ne Nat C D)) → KPfMark →
      wpAny (model prog w) A (eval elt (compEnvC scope cl C env)) (LCg.CompEnd h₀ L m { s with heap := h, toks := tk } I oI C oC D (LCg.lst ys) S (fun y news' => KCfEl news (g k) y news')) E' { s with heap := h, toks := tk })
    (fin : ∀ ys, IntsAre ys (ks.map g) → Fin ys news) : LCg.CompRest prog w A h₀ L m env elt x scope cl s S (SignAt xt) Fin xt.cps.size 0 [] news := by
  have hlen : xt.cps.size = ks.length := by rw [← hks, Array.length_toList]
  have key : ∀ (j i : Nat) (ys : List Value), i + j = xt.cps.size → IntsAre ys ((ks.take i).map g) → LCg.CompRest prog w A h₀ L m env elt x scope cl s S (SignAt xt) Fin j i ys news := by
    intro j
    induction j with
    | zero =>
      intro i ys hi hy
      have e : i = ks.length := by omega
      subst e
      rw [List.take_length] at hy
      exact LCg.CompRest.zero (fin ys hy)
    | succ j ih =>
      intro i ys hi hy
      refine LCg.CompRest.succ ?_
      intro v I oI C oC D m₂ h tk E' hv hC hx F N off ne
      obtain ⟨k, t, hk, hv'⟩ := hv
      rw [hv'] at hx
      have hk' : ks[i]? = some k := by rw [← hks]; simpa using hk
      refine wpAny_mono (turn k t I oI C oC D m₂ ys h tk E' (List.mem_of_getElem? hk') hC hx F N off ne True.intro) (fun y s₂ hq => ?_) fun _ _ e => e
      obtain ⟨h', tk', nw, e, F', N', off', hS, hn, t', hy'⟩ := hq
      rw [hn] at N' off' hS
      refine ⟨h', tk', news, e, F', N', off', hS, ?_⟩
      rw [hy']
      refine ih (i + 1) _ (by omega) ?_
      rw [List.take_add_one, hk']
      simpa using IntsAre.append hy (.cons (g k) t' .nil)
  exact key _ 0 [] (by omega) (by simp only [List.take_zero, List.map_nil]; exact .nil)

theorem TxtSrc.of {Fin : Shared → List Value → List (Addr × Obj) → Prop} {news : List (Addr × Obj)} {xt : PySem.Str} {tx : Tok} {s₁ : Shared} (g : Nat → Int) (ks : List Nat) (hks : xt.cps.toList = ks)
    (hh : A.handled = none) (F : Fr h₀ L s₁.heap m) (N : News h₀ L s₁.heap news) (hsz : xt.length ≤ sizeLine)
    (turn : ∀ hp k u I oI C oC D m₂ ys h tk (E' : Value → Shared → Prop), k ∈ ks → LCg.NsObj oC m₂ → m₂ x = some (.str ⟨#[k]⟩ u) → Fr h₀ L h m → News h₀ L h ((I, oI) :: (C, oC) :: (D, LCg.lst ys) :: news) → LCg.Off3 I C D news → ((@Ne Nat I C) ∧ (@Ne Nat I D) ∧ (@Ne Nat C D)) → KPfMark →
      wpAny (model prog w) A (eval elt (compEnvC scope cl C env)) (LCg.CompEnd h₀ L m { s₁ with heap := h, toks := tk } I oI C oC D (LCg.lst ys) (fun _ => True) (fun y news' => KCfEl news (g k) y news')) E' { { s₁ with heap := hp } with heap := h, toks := tk })
    (fin : ∀ hp ys, IntsAre ys (ks.map g) → Fin { s₁ with heap := hp } ys news) : TxtSrc prog w A h₀ L m env elt x scope cl Fin (.str xt tx) s₁ := by
  refine ⟨xt, tx, news, rfl, hh, F, N, hsz, ?_⟩
  rintro s₂ ⟨hp, rfl⟩
  exact txt_rest g ks hks (turn hp) (fin hp)
end
end Mine
namespace Mine
open PyProof.Rows
/-- the ledger without its third, fourth and fifth -/
theorem news_cut {h₀ h : Heap} {L : Addr} {a b c d e : Addr × Obj} {r : List (Addr × Obj)} (N : News h₀ L h (a :: b :: c :: d :: e :: r)) : News h₀ L h (a :: b :: r) := fun p hp => by
  rcases List.mem_cons.mp hp with rfl | hp
  · exact N _ (.head _)
  · rcases List.mem_cons.mp hp with rfl | hp
    · exact N _ (.tail _ (.head _))
    · exact N _ (.tail _ (.tail _ (.tail _ (.tail _ (.tail _ hp)))))
end Mine
end

-- Lt
section
namespace Mine
open PySem.Calls PyProof.V PySem.Spec
open AutoSeq1 (wpAny_loadPart')
open MeetsSeq MeetsSeq3

/-- what < tells of two lists of ints -/
def lexLt : List Int → List Int → Bool
  | [], [] => false
  | [], _ :: _ => true
  | _ :: _, [] => false
  | a :: r, b :: q => if a == b then lexLt r q else decide (a < b)

theorem lt_loop (l b : Addr) (vs us : List Value) (ns ms : List Int) (n n2 : Nat) (hv : IntsAre vs ns) (hu : IntsAre us ms) (hsz : vs.length = us.length) (k : Nat) :
    ∀ i : Nat, vs.length - i = k → Meets (Builtin.«list.__eq__.loop» ⟨[.ref l, .ref b, rawInt i, rawInt 0], []⟩)
      (fun _ R s => s.heap.get? l = some { cls := .type "list", dict := none, data := .seq vs.toArray n, slots := #[] } ∧ s.heap.get? b = some { cls := .type "list", dict := none, data := .seq us.toArray n2, slots := #[] } ∧
        R (.ok (.ret (.bool (lexLt (ns.drop i) (ms.drop i))))) s) := by
  have hvl := hv.length
  have hul := hu.length
  induction k with
  | zero =>
    intro i hk prog w A R s h
    obtain ⟨hp, g, d, tk, os⟩ := s; obtain ⟨hl, hb, h⟩ := h
    wp_walk using wpAny_loadPart' hl, wpAny_loadPart' hb
    have hi1 : vs.toArray[((i : Nat) : Int).toNat]? = none := by simp; omega
    have hi2 : us.toArray[((i : Nat) : Int).toNat]? = none := by simp; omega
    have hd : ns.drop i = [] := List.drop_of_length_le (by omega)
    have hd2 : ms.drop i = [] := List.drop_of_length_le (by omega)
    rw [hd, hd2] at h
    rw [hi1, hi2]
    wp_walk using wpAny_loadPart' hl, wpAny_loadPart' hb
    show R (.ok (.ret (.bool (decide (vs.toArray.size < us.toArray.size))))) _
    have : decide (vs.toArray.size < us.toArray.size) = false := by simp; omega
    rw [this]
    exact h
  | succ k ih =>
    intro i hk prog w A R s h
    obtain ⟨hp, g, d, tk, os⟩ := s; obtain ⟨hl, hb, h⟩ := h
    wp_walk using wpAny_loadPart' hl, wpAny_loadPart' hb
    have hlt : i < ns.length := by omega
    have hlt2 : i < ms.length := by omega
    obtain ⟨t, hx⟩ := hv.get i ns[i] (by simp [hlt])
    obtain ⟨u, hy⟩ := hu.get i ms[i] (by simp [hlt2])
    have hi1 : vs.toArray[((i : Nat) : Int).toNat]? = some (.int ns[i] t) := by simpa using hx
    have hi2 : us.toArray[((i : Nat) : Int).toNat]? = some (.int ms[i] u) := by simpa using hy
    have hd : ns.drop i = ns[i] :: ns.drop (i + 1) := List.drop_eq_getElem_cons hlt
    have hd2 : ms.drop i = ms[i] :: ms.drop (i + 1) := List.drop_eq_getElem_cons hlt2
    have hc : ((i : Int) + 1) = ((i + 1 : Nat) : Int) := by push_cast; rfl
    rw [hd, hd2] at h
    unfold lexLt at h
    rw [hi1, hi2]
    refine wpAny_bind (EqGives.int ns[i] ms[i] t u prog w _ _ _ _ ?_)
    cases hb' : (ns[i] == ms[i]) with
    | true =>
      rw [hb'] at h
      wp_walk
      rw [hc]
      exact ⟨plainId_quiet plain_eq_loop _, codeAny_builtin entry_eq_loop (by
        rw [Around.under_plainId plain_eq_loop _]
        exact ih (i + 1) (by omega) prog w A R _ ⟨hl, hb, by simpa using h⟩)⟩
    | false =>
      rw [hb'] at h
      wp_walk using wpAny_loadPart' hl, wpAny_loadPart' hb
      rw [hi1, hi2]
      refine wpAny_bind ?_
      refine (show wpAny _ _ (compareOp .Lt (.int ns[i] t) (.int ms[i] u)) _ _ _ from PyProof.Rows.lt_int ?_)
      refine wpAny_pure ?_
      simpa using h

theorem list_lt (l b : Addr) (vs us : List Value) (ns ms : List Int) (n n2 : Nat) (hv : IntsAre vs ns) (hu : IntsAre us ms) (hsz : vs.length = us.length) :
    Meets (Builtin.«list.__lt__» ⟨[.ref l, .ref b], []⟩)
      (fun _ R s => s.heap.get? l = some { cls := .type "list", dict := none, data := .seq vs.toArray n, slots := #[] } ∧ s.heap.get? b = some { cls := .type "list", dict := none, data := .seq us.toArray n2, slots := #[] } ∧
        R (.ok (.ret (.bool (lexLt ns ms)))) s) := by
  intro prog w A R s h
  obtain ⟨hp, g, d, tk, os⟩ := s; obtain ⟨hl, hb, h⟩ := h
  have f3 := AutoSeq1.sub_list_list
  wp_walk using wpAny_loadPart' hl, wpAny_loadPart' hb
  exact ⟨plainId_quiet plain_eq_loop _, codeAny_builtin entry_eq_loop (by
    rw [Around.under_plainId plain_eq_loop _]
    exact lt_loop l b vs us ns ms n n2 hv hu hsz _ 0 rfl prog w A R _ ⟨hl, hb, by simpa using h⟩)⟩

section
variable {prog : Program} {w : World} {A : Around} {E : Value → Shared → Prop} {s : Shared} {h₀ : Heap} {L l b : Addr} {news : List (Addr × Obj)} {vs us : List Value} {ns ms : List Int} {Q : Value → Shared → Prop}
theorem cmp_lists (hA : A.units < cLine) (N : News h₀ L s.heap news) (hl : (l, LCg.lst vs) ∈ news) (hb : (b, LCg.lst us) ∈ news) (hv : IntsAre vs ns) (hu : IntsAre us ms) (hsz : ns.length = ms.length)
    (h : Q (.bool (lexLt ns ms)) s) : wpAny (model prog w) A (compareOp .Lt (.ref l) (.ref b)) Q E s := by
  show wpAny _ _ (richCompare .Lt (.ref l) (.ref b)) _ _ _
  have h1 := (N _ hl).1
  have h2 := (N _ hb).1
  exact richCompare_meets_room (op := .Lt) ⟨_, h1, rfl⟩ ⟨_, h2, rfl⟩ F.slot_list_lt F.entry_list_lt (F.args_list_lt_2 _ _) (list_lt l b vs us ns ms vs.length us.length hv hu (by rw [hv.length, hu.length, hsz]))
    ⟨h1, h2, show Value.bool (lexLt ns ms) ≠ Value.notImplemented ∧ Q (.bool (lexLt ns ms)) s from ⟨(fun x => nomatch x), h⟩⟩ hA
end

/-- the plain law: texts as long, the greater number's is told by the first unlike sign -/
theorem fold_ge : ∀ (l : List Nat) (a : Nat), a * 58 ^ l.length ≤ l.foldl (fun a d => a * 58 + d) a
  | [], a => by simp
  | d :: r, a => by
    rw [List.foldl_cons, List.length_cons]
    have := fold_ge r (a * 58 + d)
    have e : a * 58 ^ (r.length + 1) = (a * 58) * 58 ^ r.length := by rw [Nat.pow_succ, Nat.mul_comm (58 ^ r.length) 58, Nat.mul_assoc]
    rw [e]
    exact Nat.le_trans (Nat.mul_le_mul_right _ (by omega)) this
theorem fold_lt58 : ∀ (l : List Nat) (a : Nat), (∀ d ∈ l, d < 58) → l.foldl (fun a d => a * 58 + d) a < (a + 1) * 58 ^ l.length
  | [], a, _ => by simp
  | d :: r, a, h => by
    rw [List.foldl_cons, List.length_cons]
    have h1 := fold_lt58 r (a * 58 + d) fun e he => h e (.tail _ he)
    have hd := h d (.head _)
    have e : (a + 1) * 58 ^ (r.length + 1) = ((a + 1) * 58) * 58 ^ r.length := by rw [Nat.pow_succ, Nat.mul_comm (58 ^ r.length) 58, Nat.mul_assoc]
    rw [e]
    exact Nat.lt_of_lt_of_le h1 (Nat.mul_le_mul_right _ (by omega))
theorem lex_fold : ∀ (l r : List Nat) (a : Nat), l.length = r.length → (∀ d ∈ l, d < 58) → (∀ d ∈ r, d < 58) →
    lexLt (l.map fun d => ((d : Nat) : Int)) (r.map fun d => ((d : Nat) : Int)) = decide (l.foldl (fun a d => a * 58 + d) a < r.foldl (fun a d => a * 58 + d) a)
  | [], [], a, _, _, _ => by simp [lexLt]
  | x :: l, y :: r, a, hl, h1, h2 => by
    rw [List.map_cons, List.map_cons, List.foldl_cons, List.foldl_cons]
    unfold lexLt
    have hl' : l.length = r.length := by simpa using hl
    by_cases e : x = y
    · subst e
      simp only [beq_self_eq_true, if_true]
      exact lex_fold l r _ hl' (fun d hd => h1 d (.tail _ hd)) fun d hd => h2 d (.tail _ hd)
    · have ne : (((x : Nat) : Int) == ((y : Nat) : Int)) = false := by
        rw [beq_eq_false_iff_ne]; omega
      simp only [ne, Bool.false_eq_true, if_false]
      have b1 := fold_ge l (a * 58 + x)
      have b2 := fold_lt58 l (a * 58 + x) fun d hd => h1 d (.tail _ hd)
      have c1 := fold_ge r (a * 58 + y)
      have c2 := fold_lt58 r (a * 58 + y) fun d hd => h2 d (.tail _ hd)
      rw [← hl'] at c1 c2
      by_cases hxy : x < y
      · have hm : (a * 58 + x + 1) * 58 ^ l.length ≤ (a * 58 + y) * 58 ^ l.length := Nat.mul_le_mul_right _ (by omega)
        have g1 : l.foldl (fun a d => a * 58 + d) (a * 58 + x) < r.foldl (fun a d => a * 58 + d) (a * 58 + y) := by omega
        have g2 : ((x : Nat) : Int) < ((y : Nat) : Int) := by omega
        rw [decide_eq_true g1, decide_eq_true g2]
      · have hm : (a * 58 + y + 1) * 58 ^ l.length ≤ (a * 58 + x) * 58 ^ l.length := Nat.mul_le_mul_right _ (by omega)
        have g1 : ¬ l.foldl (fun a d => a * 58 + d) (a * 58 + x) < r.foldl (fun a d => a * 58 + d) (a * 58 + y) := by omega
        have g2 : ¬ ((x : Nat) : Int) < ((y : Nat) : Int) := by omega
        rw [decide_eq_false g1, decide_eq_false g2]
  | [], _ :: _, _, h, _, _ => by simp at h
  | _ :: _, [], _, h, _, _ => by simp at h
theorem law_same {n m : Nat} (h : (dig n).length = (dig m).length) : lexLt ((dig n).map fun d => ((d : Nat) : Int)) ((dig m).map fun d => ((d : Nat) : Int)) = decide (((n : Nat) : Int) < ((m : Nat) : Int)) := by
  rw [lex_fold _ _ 0 h (dig_lt n) (dig_lt m), dig_read, dig_read]
  by_cases g : n < m
  · have : ((n : Nat) : Int) < ((m : Nat) : Int) := by omega
    rw [decide_eq_true g, decide_eq_true this]
  · have : ¬ ((n : Nat) : Int) < ((m : Nat) : Int) := by omega
    rw [decide_eq_false g, decide_eq_false this]
theorem dig_lo : ∀ n : Nat, n ≠ 0 → 58 ^ (dig n).length ≤ 58 * n := by
  intro n
  induction n using Nat.strongRecOn with
  | ind n ih =>
    intro h
    rw [dig_pos h, List.length_append, List.length_singleton, Nat.pow_succ]
    by_cases h1 : n / 58 = 0
    · rw [h1, dig_zero]; simp; omega
    · have := ih (n / 58) (by omega) h1
      omega
theorem dig_hi (n : Nat) : n < 58 ^ (dig n).length := by
  have := fold_lt58 (dig n) 0 (dig_lt n)
  rw [dig_read] at this
  simpa using this
theorem len_lt {n m : Nat} (h : (dig n).length < (dig m).length) : n < m := by
  have hm : m ≠ 0 := by
    intro e
    rw [e, dig_zero] at h; simp at h
  have h1 := dig_hi n
  have h2 := dig_lo m hm
  have h3 : 58 ^ ((dig n).length + 1) ≤ 58 ^ (dig m).length := Nat.pow_le_pow_right (by decide) h
  rw [Nat.pow_succ] at h3
  omega
theorem law_unlike {n m : Nat} (h : (dig n).length ≠ (dig m).length) : decide (((n : Nat) : Int) < ((m : Nat) : Int)) = decide ((((dig n).length : Nat) : Int) < (((dig m).length : Nat) : Int)) := by
  rcases Nat.lt_or_gt_of_ne h with g | g
  · have := len_lt g
    rw [decide_eq_true (by omega), decide_eq_true (by omega)]
  · have := len_lt g
    rw [decide_eq_false (by omega), decide_eq_false (by omega)]
end Mine
namespace Mine
theorem end_unlike {n m : Nat} (h : ((((dig n).map fun d => ((d : Nat) : Int)).length : Nat) : Int) ≠ ((((dig m).map fun d => ((d : Nat) : Int)).length : Nat) : Int)) :
    decide (((n : Nat) : Int) < ((m : Nat) : Int)) = decide (((((dig n).map fun d => ((d : Nat) : Int)).length : Nat) : Int) < ((((dig m).map fun d => ((d : Nat) : Int)).length : Nat) : Int)) := by
  simp only [List.length_map] at h ⊢
  exact law_unlike (by omega)
theorem end_same {n m : Nat} (h : ((((dig n).map fun d => ((d : Nat) : Int)).length : Nat) : Int) = ((((dig m).map fun d => ((d : Nat) : Int)).length : Nat) : Int)) :
    decide (((n : Nat) : Int) < ((m : Nat) : Int)) = lexLt ((dig n).map fun d => ((d : Nat) : Int)) ((dig m).map fun d => ((d : Nat) : Int)) := by
  simp only [List.length_map] at h
  exact (law_same (by omega)).symm
theorem cmp_eq_bools {prog : Program} {w : World} {A : Around} {E : Value → Shared → Prop} {s : Shared} {Q : Value → Shared → Prop} {c d : Bool} (e : c = d) (h : Q (.bool true) s) : wpAny (model prog w) A (compareOp .Eq (.bool c) (.bool d)) Q E s :=
  PyProof.Rows.eq_bool (by subst e; simpa using h)
end Mine
end

-- L1
section
namespace Mine
local macro_rules | `(tactic| walk_at "exec For Name Call cons nil") => `(tactic| (k_here; (rename Fr _ _ _ _ => lF'); (with_unfolding_all refine' For_turns lF' ?_; k_whole)))
local macro_rules | `(tactic| walk_at "pyIter ref") => `(tactic| ((with_reducible show wpAny _ _ (pyIter (Value.ref _)) (fun it s₂ => TurnsAt _ _ _ _ _ _ _ _ _ it s₂) _ _); (rename Fr _ _ _ _ => lF'); (rename News _ _ _ _ => lN'); (rename IsRange _ _ _ _ _ _ _ _ => rgX); (with_unfolding_all refine iter_range2 (by rfl) rgX lF' lN' ?_); clear lF' lN'; intro i' l1; (try k_lt l1)))
local macro_rules | `(tactic| walk_at "call ref") => `(tactic| (k_here; (with_reducible show wpAny _ _ (call (Value.ref _) [Value.ref _, Value.int _ _]) _ _ _); k_dflt (refine' num_use ?k1 ?k2 ?k3 ?k4 ?k5 ?kK ?kl ?ki ?kt ?k0 ?kd ?ku ?_; (case k1 => k_asm); (case k2 => k_asm); (case k3 => k_asm); (case k4 => k_asm); (case k5 => k_asm); (case kK => exact rfl); (case kl => k_asm); (case ki => l_ints); (case kt => l_fit); (case k0 => first | decide | l_idx); (case kd => ktr_room); (case ku => ktr_units)); intro t9 h9 tk9 F9 N9; (try dsimp only); (try k_fold)))
local macro_rules | `(tactic| walk_at "call ref") => `(tactic| (k_here; (with_reducible show wpAny _ _ (call (Value.ref _) [Value.bytes _ _]) _ _ _); k_dflt (refine' b58_use ?k1 ?k2 ?k3 ?k4 ?k5 ?kK ?kl ?kd ?ku ?_; (case k1 => k_asm); (case k2 => k_asm); (case k3 => k_asm); (case k4 => k_asm); (case k5 => k_asm); (case kK => exact rfl); (case kl => ((try simp only [Array.size_append, Array.size_replicate]); first | omega | (simp; omega))); (case kd => ktr_room); (case ku => ktr_units)); intro t9 h9 tk9 F9 N9; (try dsimp only); (try rw [natOf_zeros]); (try k_fold)))
local macro_rules | `(tactic| walk_at "call ref") => `(tactic| (k_here; (with_reducible show wpAny _ _ (call (Value.ref _) [Value.str _ _]) _ _ _); k_dflt (refine' read_use ?k1 ?k2 ?k3 ?k4 ?k5 ?kK ?kl ?kd ?ku ?_; (case k1 => k_asm); (case k2 => k_asm); (case k3 => k_asm); (case k4 => k_asm); (case k5 => k_asm); (case kK => exact rfl); (case kl => exact dig_natOf (by omega)); (case kd => ktr_room); (case ku => ktr_units)); intro t9 h9 tk9 F9 N9; (try dsimp only); (try k_fold)))
local macro_rules | `(tactic| walk_at "call ref") => `(tactic| (k_here; (with_reducible show wpAny _ _ (call (Value.ref _) [Value.bytes _ _, Value.str _ _]) _ _ _); kfb_any; k_dflt (refine' fb_any ?k1 ?k2 ?k3 ?_; (case k1 => k_asm); (case k2 => k_mem); (case k3 => omega)); intro t9 tk9; (try dsimp only)))
local macro_rules | `(tactic| walk_at "call type:bytes") => `(tactic| (k_here; (with_reducible show wpAny _ _ (call (Value.type "bytes") [Value.ref _]) _ _ _); k_dflt (refine' mk_any ?F ?N ?h ?l ?i ?r ?z ?_; (case F => k_asm); (case N => k_asm); (case h => exact rfl); (case l => kba_isList); (case i => kba_listInts); (case r => kba_in); (case z => kba_size)); intro b9 h9 t9 tk9 hb9 F9 N9; (have hd9 := dig_natOf (Nat.le_trans hb9 (by decide : 40 ≤ 100))); (try k_sweep)))
local macro_rules | `(tactic| walk_at "call type:bytes") => `(tactic| (k_here; (with_reducible show wpAny _ _ (call (Value.type "bytes") [Value.int _ _]) _ _ _); k_dflt (refine' bytes_int (by decide) (by decide) ?_); intro t9 tk9; (try dsimp only)))
local macro_rules | `(tactic| walk_at "binaryOp Add bytes bytes") => `(tactic| (k_here; k_dflt (refine' add_any ?z ?_; (case z => ((try simp only [Array.size_append, Array.size_replicate]); first | omega | (simp; omega)))); intro t9 tk9; (try dsimp only)))
local macro_rules | `(tactic| size_fits) => `(tactic| with_reducible exact enc_fits (by omega))
local macro_rules | `(tactic| walk_at "compareOp Eq str str") => `(tactic| (k_here; (first | with_reducible refine cmp_one ?_ | with_reducible refine cmp_empty ?_)))
local macro_rules | `(tactic| walk_at "compareOp Eq int int") => `(tactic| (k_here; with_reducible refine cmp_zero ?_))
local macro_rules | `(tactic| walk_at "compareOp NotEq bool bool") => `(tactic| (k_here; with_reducible refine cmp_bools ?_))
local macro_rules | `(tactic| walk_at "compareOp NotEq str str") => `(tactic| (k_here; with_reducible refine cmp_texts ?_))
local macro_rules | `(tactic| walk_at "compareOp NotEq int int") => `(tactic| (k_here; with_reducible refine cmp_ints ?_))
local macro_rules | `(tactic| walk_at "eval ListComp") => `(tactic| (k_here; (with_reducible show wpAny _ _ (eval (PySem.Expr.ListComp (PySem.Expr.Call (PySem.Expr.Attribute _ _ _) _ _ _) _ _ _) _) _ _ _); k_dflt (refine ListComp_T (by k_asm) (by with_unfolding_all rfl) (by decide) (by rfl) (by decide) (by rfl) ?_)))
local macro_rules | `(tactic| walk_at "TxtSrc") => `(tactic| (k_here; k_dflt (refine TxtSrc.of (fun c => Txt.find (Str.ofString "123456789ABCDEFGHJKLMNPQRSTUVWXYZabcdefghijkmnopqrstuvwxyz") ⟨#[c]⟩) _ rfl (by rfl) (by k_asm) (by k_asm) (by exact enc_fits (by omega)) (fun hp' k' t' I' oI' C' oC' D' m' ys' h' tk' E' hk' hC' hx' F' N' off' ne' hMark' => ?_) (fun hp' ys' hys' => ?_)); (all_goals (try simp only [LCg.Off3, and_true] at off')); (all_goals (try rw [find_all] at hys')); (all_goals (try k_fold))))
local macro_rules | `(tactic| walk_at "compareOp Lt ref ref") => `(tactic| (k_here; k_dflt (refine' cmp_lists ?u ?N ?l ?b ?v ?w ?s ?_; (case u => k_units); (case N => k_asm); (case l => k_mem); (case b => k_mem); (case v => assumption); (case w => assumption); (case s => omega))))
local macro_rules | `(tactic| walk_at "compareOp Eq bool bool") => `(tactic| (k_here; (with_reducible refine cmp_eq_bools (by first | exact end_unlike (by assumption) | exact end_same (by assumption)) ?_)))
local macro_rules | `(tactic| k_ne) => `(tactic| (refine neN ?_; (try dsimp only); first | with_reducible assumption | exact Ne.symm (by with_reducible assumption) | exact Nat.ne_of_gt (by with_reducible assumption) | exact Nat.ne_of_lt (by with_reducible assumption)))
local macro_rules | `(tactic| walk_at "call builtin:list.append") => `(tactic| (k_here; (with_reducible show wpAny _ _ (call (Value.builtin _) [Value.ref _, _]) _ _ _); (rename News _ _ _ _ => nA); (have nB := news_cut nA); clear nA; (repeat (with_reducible rename (_ ∧ _) => hz; obtain ⟨hz1, hz2⟩ := hz)); k_dflt (refine' append_K ?k1 nB ?k3 ?_ ?z; (case k1 => k_asm); (case k3 => k_upd); (case z => size_fits); k_whole); clear nB; intro h' F' N'; (try k_sweep)))
set_option maxHeartbeats 40000000 in
theorem law : PySem.Challenge.rw_fe0187_01.Holds := hd (by
  k_with_none
  w_strict (k_go0; (all_goals try k_fold); k_steps))
end Mine
end

theorem PySem.Challenge.cw_fe0187_01_holds : PySem.Challenge.rw_fe0187_01.Holds := by
  exact Mine.law

/- Words for the walk of parsePattern: the map of names, the deferred closure, the state of its loop. -/
import Derived.Test.YtmkbkpeccddejaaDoorA3
import Derived.Test.YtmkbkpeccddejaaDoorB2
import Derived.Test.YtmkbkpeccddejaaDoorShelf
import Derived.Test.YtmkbkpeccddejaaDoorA4
import Derived.Test.YtmkbkpeccddejaaDoorA5
import Derived.Defers
import Derived.Maps.OwnSet
namespace Go.Proofs.YtmkbkpeccddejaaDoor
open Go.RowKit PFnDifference Go.Proofs.YtmkbkpeccddejaaDoorW.PrintWords Go.Proofs.YtmkbkpeccddejaaDoorW.PrintLast Go.Proofs.YtmkbkpeccddejaaDoorW.PrintMore
set_option linter.unusedVariables false
set_option linter.unusedSimpArgs false

theorem slash_at (s : ByteArray) (n : Int) (w : World) (h : Lib.indexByte s.data.toList 47 = n) : Calls Tryd.prog 38 #[.string s, .int .u8 47] w fun e w' => e = .returned (.int .i64 n) ∧ w = w' := by
  subst h
  exact (Tryd.strings_IndexByte s 47 w).mono fun _ _ ⟨a, b⟩ => ⟨a, b.symm⟩
theorem brace_at (s : ByteArray) (n : Int) (w : World) (h : Lib.indexByte s.data.toList 123 = n) : Calls Tryd.prog 38 #[.string s, .int .u8 123] w fun e w' => e = .returned (.int .i64 n) ∧ w = w' := by
  subst h
  exact (Tryd.strings_IndexByte s 123 w).mono fun _ _ ⟨a, b⟩ => ⟨a, b.symm⟩
/-- No blank in a text. -/
theorem noBlank (s : ByteArray) (w : World) (hs : s.size ≤ 2147483647) (ha : ∀ j, j < s.size → byt s j < 128) (hno : ∀ j, j < s.size → byt s j ≠ 32 ∧ byt s j ≠ 9) :
    Calls Tryd.prog 35 #[.string s, .string blanks] w fun e w' => e = .returned (.int .i64 (-1)) ∧ Below w.heap.size w w' := by
  refine (indexAny_at s s.size w hs (Nat.le_refl _) ha hno (fun hh => absurd hh (Nat.lt_irrefl _))).mono ?_
  rintro e w' ⟨he, hb⟩
  rw [if_neg (Nat.lt_irrefl _)] at he
  exact ⟨he, hb⟩
/-- The first blank of a text stands behind k bytes. -/
theorem blankAt (s : ByteArray) (k : Nat) (w : World) (hs : s.size ≤ 2147483647) (hk : k < s.size) (ha : ∀ j, j < s.size → byt s j < 128) (hno : ∀ j, j < k → byt s j ≠ 32 ∧ byt s j ≠ 9) (hat : byt s k = 32) :
    Calls Tryd.prog 35 #[.string s, .string blanks] w fun e w' => e = .returned (.int .i64 k) ∧ Below w.heap.size w w' := by
  refine (indexAny_at s k w hs (by omega) ha hno (fun _ => hat)).mono ?_
  rintro e w' ⟨he, hb⟩
  rw [if_pos hk] at he
  exact ⟨he, hb⟩

/-! ### what the pieces in braces look like -/
theorem brace_facts (sg nm : ByteArray) (h : sg.data.toList = 123 :: (nm.data.toList ++ [125])) :
    sg.size = nm.size + 2 ∧ byt sg (sg.size - 1) = 125 ∧ sg.extract 1 (sg.size - 1) = nm ∧ Lib.indexByte sg.data.toList 123 = 0 := by
  have hz : sg.size = nm.size + 2 := by rw [Lib.size_eq, h, Lib.size_eq]; simp
  refine ⟨hz, ?_, str_eq ?_, by rw [h]; simp [Lib.indexByte]⟩
  · have hlt : sg.size - 1 < sg.size := by omega
    rw [← byt_at sg (sg.size - 1) hlt]
    have hl : sg.data.toList[sg.size - 1]? = some 125 := by
      rw [h, hz, show nm.size + 2 - 1 = nm.data.toList.length + 1 by rw [Lib.size_eq]; omega]
      simp
    have : sg[sg.size - 1] = 125 := by
      have h2 : sg.data.toList[sg.size - 1]? = some (sg[sg.size - 1]) := by rw [List.getElem?_eq_getElem (by rw [← Lib.size_eq]; exact hlt)]; rfl
      rw [hl] at h2
      exact (Option.some.inj h2).symm
    rw [this]; rfl
  · rw [Lib.extract_data, h, hz, Lib.size_eq]
    simp
theorem cut_no (nm : ByteArray) (w : World) (hs : nm.size ≤ 2147483647) (h : NameP nm) :
    Calls Tryd.prog 41 #[.string nm, .string ⟨#[46, 46, 46]⟩] w fun e w' => e = .returned (.tuple #[.string nm, .bool false]) ∧ w = w' := by
  have hf : Lib.hasSuffix nm.data.toList [46, 46, 46] = false := by
    rw [Bool.eq_false_iff]
    intro hh
    have := List.isSuffixOf_iff_suffix.1 hh
    exact h.no (c := 46) (.inr (.inl rfl)) (this.subset (by simp))
  refine (Tryd.strings_CutSuffix nm ⟨#[46, 46, 46]⟩ w (by omega)).mono ?_
  rintro e w' ⟨he, rfl⟩
  refine ⟨?_, rfl⟩
  have e1 : (⟨(Lib.trimSuffix nm.data.toList [46, 46, 46]).toArray⟩ : ByteArray) = nm := by unfold Lib.trimSuffix; rw [hf]; simp
  have he' : e = .returned (.tuple #[.string ⟨(Lib.trimSuffix nm.data.toList [46, 46, 46]).toArray⟩, .bool (Lib.hasSuffix nm.data.toList [46, 46, 46])]) := he
  rw [he', hf, e1]
theorem cut_yes (nm x : ByteArray) (w : World) (hs : nm.size ≤ 2147483647) (h : nm.data.toList = x.data.toList ++ [46, 46, 46]) :
    Calls Tryd.prog 41 #[.string nm, .string ⟨#[46, 46, 46]⟩] w fun e w' => e = .returned (.tuple #[.string x, .bool true]) ∧ w = w' := by
  have hf : Lib.hasSuffix nm.data.toList [46, 46, 46] = true := by rw [h]; exact List.isSuffixOf_iff_suffix.2 (List.suffix_append _ _)
  refine (Tryd.strings_CutSuffix nm ⟨#[46, 46, 46]⟩ w (by omega)).mono ?_
  rintro e w' ⟨he, rfl⟩
  refine ⟨?_, rfl⟩
  have e1 : (⟨(Lib.trimSuffix nm.data.toList [46, 46, 46]).toArray⟩ : ByteArray) = x := by unfold Lib.trimSuffix; rw [hf, h]; simp
  have he' : e = .returned (.tuple #[.string ⟨(Lib.trimSuffix nm.data.toList [46, 46, 46]).toArray⟩, .bool (Lib.hasSuffix nm.data.toList [46, 46, 46])]) := he
  rw [he', hf, e1]

/-! ### the map of names -/
open Go.Maps (Keyed)
theorem nameKeyed : Keyed Tryd.prog 9 := Go.Maps.string_keyed Tryd.underlying9
theorem zero4 (w : World) : (zeroValue 4).run Tryd.prog w = .ok (.bool false) w := by kernel_rfl
theorem boolElem_inv {P : Program} {e : TypeId} (he : P.underlying e = some .bool) {v : Value} {z : DataW Unit × List MemPlace} (h : plainElem P e v = some z) : ∃ x, v = .bool x ∧ z.1 = .lit (.bool x) := by
  unfold plainElem at h
  rw [he] at h
  cases v <;> simp at h
  subst h
  exact ⟨_, rfl, rfl⟩
/-- A key that is not in a map of bools is looked up as false. -/
theorem wpList_lookup_none {P : Program} {k e : TypeId} {ops : Array Oper} {rest : List Oper} {o : Oper} {a : Act} {Q : Exit → Act → World → Prop} (w : World) (K : Keyed P k) (t : TypeId) (ht : P.underlying t = some (.map k e)) (he : P.underlying e = some .bool)
    (hz : (zeroValue e).run P w = .ok (.bool false) w)
    (hg : o.guard = none) (m x : Operand) (hop : o.op = Op.lookup t m x false) (b n : Nat) (D : DataW Unit)
    (hm : a.eval m = .map (some b)) (hown : w.ownsMap P k (plainElem P e) b n D) (key : Value) (kl : Lit) (hx : a.eval x = key) (hkey : keyOf P k key = some kl)
    (hno : D.atKey kl (.lit (.bool false)) = .lit (.bool false))
    (hK : wpList P ops Q rest (a.put o.dst (.bool false)) w) : wpList P ops Q (o :: rest) a w := by
  refine wpList_plain hg fun K' hK' => ?_
  obtain ⟨v, ps, hrun, hv⟩ := hown.lookup K ht hz (plainElem_bool he false) hkey
  obtain ⟨c, rfl, hc⟩ := boolElem_inv he hv
  have hc' : c = false := by
    have : DataW.lit (H := Unit) (.bool c) = .lit (.bool false) := hc.symm.trans hno
    injection this with h1
    injection h1
  subst hc'
  unfold Oper.wp
  simp [execOp, hop, hm, hx, hrun, Result.andThen]
  exact hK' _ _ hK
theorem wpList_lookup_no {ops : Array Oper} {rest : List Oper} {o : Oper} {a : Act} {Q : Exit → Act → World → Prop} (w : World)
    (hg : o.guard = none) (m x : Operand) (hop : o.op = Op.lookup 81 m x false) (b n : Nat) (D : DataW Unit)
    (hm : a.eval m = .map (some b)) (hown : w.ownsMap Tryd.prog 9 (plainElem Tryd.prog 4) b n D) (s : ByteArray) (hx : a.eval x = .string s) (hs : s.size ≤ maxLen)
    (hno : D.atKey (.string s.data.toList) (.lit (.bool false)) = .lit (.bool false))
    (hK : wpList Tryd.prog ops Q rest (a.put o.dst (.bool false)) w) : wpList Tryd.prog ops Q (o :: rest) a w :=
  wpList_lookup_none w nameKeyed 81 Tryd.underlying81 Tryd.underlying4 (zero4 w) hg m x hop b n D hm hown _ _ hx (Go.WideMaps.keyOf_string_mk Tryd.underlying9 hs) hno hK
/-- A name is put into the map. -/
theorem wpList_put {ops : Array Oper} {rest : List Oper} {o : Oper} {a : Act} {Q : Exit → Act → World → Prop} (w : World)
    (hg : o.guard = none) (m x : Operand) (hop : o.op = Op.mapUpdate 81 m x (.const (.bool true))) (b n : Nat) (D : DataW Unit)
    (hm : a.eval m = .map (some b)) (hown : w.ownsMap Tryd.prog 9 (plainElem Tryd.prog 4) b n D) (hn : n < maxLen) (s : ByteArray) (hx : a.eval x = .string s) (hs : s.size ≤ maxLen)
    (hK : ∀ w', w'.ownsMap Tryd.prog 9 (plainElem Tryd.prog 4) b (n + 1) (D.put (.string s.data.toList) (.lit (.bool true))) → w.grownBy w' (some b) → wpList Tryd.prog ops Q rest (a.put o.dst undef) w') :
    wpList Tryd.prog ops Q (o :: rest) a w :=
  wpList_mapUpdate_own w hg m x _ 81 hop 9 4 nameKeyed Tryd.underlying81 (plainElem Tryd.prog 4) b n D hm hown hn _ _ _ hx rfl (Go.WideMaps.keyOf_string_mk Tryd.underlying9 hs) (.lit (.bool true)) [] (plainElem_bool Tryd.underlying4 true) hK

/-- The map knows no name but those of the pieces. -/
def Knows (D : DataW Unit) (l : List S42) : Prop := ∀ s : ByteArray, (∀ x ∈ l, x.f1 = true → x.f0.toList ≠ s.toList) → D.atKey (.string s.data.toList) (.lit (.bool false)) = .lit (.bool false)
theorem knows_nil : Knows (.map []) [] := fun s _ => by simp [DataW.atKey]
theorem knows_put {D : DataW Unit} {l : List S42} {x : S42} (h : Knows D l) (hx : x.f1 = true) : Knows (D.put (.string x.f0.data.toList) (.lit (.bool true))) (l ++ [x]) := fun s hs => by
  have hne : x.f0.data.toList ≠ s.data.toList := by
    have := hs x (by simp) hx
    rw [Lib.toList_data, Lib.toList_data] at this
    exact this
  rw [Go.Maps.atKey_put_other (fun e => hne (by injection e with e; exact e.symm))]
  exact h s (fun y hy => hs y (by simp [hy]))
theorem knows_more {D : DataW Unit} {l : List S42} {x : S42} (h : Knows D l) : Knows D (l ++ [x]) := fun s hs => h s (fun y hy => hs y (by simp [hy]))

/-! ### the closure that is deferred: no error, nothing to do -/
theorem deferred_nothing (g : Nat) (u : FrameMode) (w : World) (hc : w.cell? ⟨g, 0, none⟩ = some .nilIface) :
    CallsD Tryd.prog 34 #[.pointer (some ⟨g, 0, none⟩)] u w fun e u' w' => u' = u ∧ (e = .returned (.tuple #[]) ∧ w' = w) := by
  go_enter_d Tryd.func34, Tryd.ntmps34
  go_wp2
  go_end0
  exact ⟨rfl, rfl⟩

theorem info62 : (Tryd.prog.info? 62).map (fun i => (i.zero, i.size, i.bytes)) = some (some (.agg #[(.string ⟨#[]⟩), (.bool false), (.bool false)]), 3, 24) := by kernel_rfl

/-- The state at the head of parsePattern's loop: k pieces are read. -/
structure PR (w : World) (pb M : Nat) (s m h : ByteArray) (l : List S42) (k : Nat) (r : ByteArray) (wr : World) : Prop where
  hk : k ≤ l.length
  hr : r.data.toList = restL (l.drop k)
  hz : r.size ≤ s.size
  hE : wr.heap[w.heap.size]? = some (.cells #[.nilIface] 64 (0, 0))
  hp : ∃ v, wr.heap[pb]? = some (.cells #[.string s, .string m, .string h, v, .string ⟨#[]⟩] 60 (0, 0)) ∧ Kd.R k42 62 wr w.heap.size (fun _ => True) v (l.take k)
  hM : ∃ n D, n ≤ k ∧ wr.ownsMap Tryd.prog 9 (plainElem Tryd.prog 4) M n D ∧ Knows D (l.take k)
  hb : Below w.heap.size w wr

theorem map_row {w : World} {b n : Nat} {D : DataW Unit} (h : w.ownsMap Tryd.prog 9 (plainElem Tryd.prog 4) b n D) {e base : Nat} {ok : Nat → Prop} {v : Value} {xs : List S42} (hr : Kd.R k42 e w base ok v xs) : some b ≠ v.ownBlock := by
  intro hb
  obtain ⟨cells, hc⟩ := Kd.R_typed hr b hb.symm
  obtain ⟨es, clock, hm, _⟩ := h
  rw [hc] at hm
  cases hm
theorem map_blk {w : World} {b n : Nat} {D : DataW Unit} (h : w.ownsMap Tryd.prog 9 (plainElem Tryd.prog 4) b n D) {g : Nat} {cs : Array Value} {t : TypeId} (hg : w.heap[g]? = some (.cells cs t (0, 0))) : b ≠ g := by
  rintro rfl
  obtain ⟨es, clock, hm, _⟩ := h
  rw [hg] at hm
  cases hm
theorem s42_eq {a : ByteArray} {b c : Bool} {x : S42} (h0 : a = x.f0) (h1 : b = x.f1) (h2 : c = x.f2) : (⟨a, b, c⟩ : S42) = x := by subst h0 h1 h2; rfl
theorem slice_form {w : World} {base : Nat} {ok : Nat → Prop} {v : Value} {xs : List S42} (h : Kd.R k42 62 w base ok v xs) : ∃ A n c, v = .slice A n c := by
  obtain ⟨A, c, e⟩ := Kd.R_slice h
  exact ⟨A, _, c, e⟩
/-- A piece is appended. -/
theorem PR.next {w W w2 : World} {pb M n k c N : Nat} {s m h r2 : ByteArray} {l : List S42} {v : Value} {A : Option Addr} {D : DataW Unit} (hk : k + 1 ≤ l.length) (hr : r2.data.toList = restL (l.drop (k + 1))) (hz : r2.size ≤ s.size)
    (hE : W.heap[w.heap.size]? = some (.cells #[.nilIface] 64 (0, 0))) (hp : W.heap[pb]? = some (.cells #[.string s, .string m, .string h, v, .string ⟨#[]⟩] 60 (0, 0))) (hrow : Kd.R k42 62 W w.heap.size (fun _ => True) v (l.take k))
    (hn : n ≤ k + 1) (hM : W.ownsMap Tryd.prog 9 (plainElem Tryd.prog 4) M n D) (hD : Knows D (l.take (k + 1))) (hg : W.grownBy w2 v.ownBlock)
    (ho : Kd.R k42 62 w2 w.heap.size (fun _ => True) (.slice A N c) (l.take (k + 1))) (hb : Below w.heap.size w w2) (hpb : w.heap.size ≤ pb) :
    PR w pb M s m h l (k + 1) r2 (w2.setCell ⟨pb, 3, none⟩ (.slice A N c)) := by
  have p2 := blk_grown hp hg (Kd.R_ne hrow hp (by decide))
  have e2 := blk_grown hE hg (Kd.R_ne hrow hE (by decide))
  have m2 := hM.kept hg (map_row hM hrow)
  refine ⟨hk, hr, hz, blk_far e2 (blk_ne e2 p2 (by decide)) _, ⟨_, blk_put p2 3 _ rfl, ?_⟩, ⟨n, D, hn, ?_, hD⟩, below_set hb hpb⟩
  · exact Kd.R_set ho p2 (by decide) 3 _
  · exact m2.setCell (a := ⟨pb, 3, none⟩) (map_blk m2 p2) _

theorem cell_nil {w : World} {a : Addr} {u : Value} (h : w.cell? a = some u) : (w.setCell a .nilIface).cell? a = some .nilIface := World.cell?_setCell_same _ _ _ h
theorem cell_far3 {w : World} {g e : Nat} {u x : Value} (h : w.cell? ⟨e, 0, none⟩ = some x) : (w.setCell ⟨g, 3, none⟩ u).cell? ⟨e, 0, none⟩ = some x :=
  (World.cell?_setCell_other w ⟨g, 3, none⟩ ⟨e, 0, none⟩ u (by simp)).trans h
theorem map_drewN {w : World} {b n : Nat} {D : DataW Unit} (h : w.ownsMap Tryd.prog 9 (plainElem Tryd.prog 4) b n D) (m : Nat) : (w.drewN m).ownsMap Tryd.prog 9 (plainElem Tryd.prog 4) b n D := h
theorem map_below {w w' : World} {b n : Nat} {D : DataW Unit} (h : w.ownsMap Tryd.prog 9 (plainElem Tryd.prog 4) b n D) (hb : Below w.heap.size w w') : w'.ownsMap Tryd.prog 9 (plainElem Tryd.prog 4) b n D := h.kept (grown_of_below hb none) (by simp)
theorem row_map {w w' : World} {b n base : Nat} {D : DataW Unit} {ok : Nat → Prop} {v : Value} {xs : List S42} (h : Kd.R k42 62 w base ok v xs) (hg : w.grownBy w' (some b)) (hm : w.ownsMap Tryd.prog 9 (plainElem Tryd.prog 4) b n D) : Kd.R k42 62 w' base ok v xs :=
  Kd.R_grown1 h rfl hg (map_row hm h)
theorem below_map {w W w' : World} {b : Nat} (h : Below w.heap.size w W) (hg : W.grownBy w' (some b)) (hb : w.heap.size ≤ b) : Below w.heap.size w w' := h.grown hg h.size (fun k hk => by cases hk; exact hb)
/-- What parsePattern hands back: a pattern of these pieces, and no error. -/
def ParsePost (s m h : ByteArray) (l : List S42) (w : World) (e : Ending) (w' : World) : Prop :=
  ∃ (pb : Nat) (v : Value), e = .returned (.tuple #[.pointer (some ⟨pb, 0, none⟩), .nilIface]) ∧ w.heap.size ≤ pb ∧ w'.heap[pb]? = some (.cells #[.string s, .string m, .string h, v, .string ⟨#[]⟩] 60 (0, 0)) ∧
    Kd.R k42 62 w' w.heap.size (fun _ => True) v l ∧ Below w.heap.size w w'
theorem PR.start {w w1 : World} {s m h r : ByteArray} {l : List S42} (hr : r.data.toList = restL l) (hz : r.size ≤ s.size) (hb : Below (w.alloc (.cells #[.nilIface] 64)).heap.size (w.alloc (.cells #[.nilIface] 64)) w1) (hpb : w.heap.size ≤ w1.heap.size) :
    PR w w1.heap.size (w1.heap.size + 1) s m h l 0 r ((w1.alloc (.cells #[.string s, .string m, .string h, .slice none 0 0, .string ⟨#[]⟩] 60)).alloc (.map #[] 0)) := by
  have e1 : w1.heap[w.heap.size]? = some (.cells #[.nilIface] 64 (0, 0)) := blk_below (blk_new w _) hb
  refine ⟨Nat.zero_le _, by simpa using hr, hz, blk_alloc (blk_alloc e1 _) _, ⟨_, blk_alloc (blk_new w1 _) _, Kd.R_nil _ _ _ _ _⟩, ⟨0, .map [], Nat.le_refl _, ?_, knows_nil⟩, ?_⟩
  · have h2 := World.ownsMap_made (H := Unit) (w1.alloc (.cells #[.string s, .string m, .string h, .slice none 0 0, .string ⟨#[]⟩] 60)) Tryd.prog 9 (plainElem Tryd.prog 4)
    have e2 : (w1.alloc (.cells #[.string s, .string m, .string h, .slice none 0 0, .string ⟨#[]⟩] 60)).heap.size = w1.heap.size + 1 := by simp
    rw [e2] at h2
    exact h2
  · have h3 : Below w.heap.size w w1 := ((Below.refl _ _).alloc (Nat.le_refl _) _).trans (hb.mono (by simp))
    exact below_alloc (below_alloc h3 _) _
theorem PR.start2 {w w1 w3 : World} {s m h r : ByteArray} {l : List S42} (hr : r.data.toList = restL l) (hz : r.size ≤ s.size) (hb : Below (w.alloc (.cells #[.nilIface] 64)).heap.size (w.alloc (.cells #[.nilIface] 64)) w1)
    (hc : Below (w1.alloc (.cells #[.string s, .string m, .string h, .slice none 0 0, .string ⟨#[]⟩] 60)).heap.size (w1.alloc (.cells #[.string s, .string m, .string h, .slice none 0 0, .string ⟨#[]⟩] 60)) w3) (hpb : w.heap.size ≤ w1.heap.size) :
    PR w w1.heap.size w3.heap.size s m h l 0 r (w3.alloc (.map #[] 0)) := by
  have e1 : w1.heap[w.heap.size]? = some (.cells #[.nilIface] 64 (0, 0)) := blk_below (blk_new w _) hb
  refine ⟨Nat.zero_le _, by simpa using hr, hz, blk_alloc (blk_below (blk_alloc e1 _) hc) _, ⟨_, blk_alloc (blk_below (blk_new w1 _) hc) _, Kd.R_nil _ _ _ _ _⟩, ⟨0, .map [], Nat.le_refl _, World.ownsMap_made (H := Unit) w3 Tryd.prog 9 (plainElem Tryd.prog 4), knows_nil⟩, ?_⟩
  have h3 : Below w.heap.size w w1 := ((Below.refl _ _).alloc (Nat.le_refl _) _).trans (hb.mono (by simp))
  exact below_alloc (below_step (below_alloc h3 _) hc) _
theorem PR.done {w wr : World} {pb M k : Nat} {s m h r : ByteArray} {l : List S42} (hp : PR w pb M s m h l k r wr) (hk : l.length ≤ k) (hpb : w.heap.size ≤ pb) :
    ParsePost s m h l w (.returned (.tuple #[.pointer (some ⟨pb, 0, none⟩), .nilIface])) (wr.setCell ⟨w.heap.size, 0, none⟩ .nilIface) := by
  obtain ⟨v, h1, h2⟩ := hp.hp
  have h3 := hp.hE
  rw [List.take_of_length_le hk] at h2
  refine ⟨pb, v, rfl, hpb, blk_far h1 (blk_ne h1 h3 (by decide)) _, Kd.R_set h2 h3 (by decide) 0 _, below_set hp.hb (Nat.le_refl _)⟩
end Go.Proofs.YtmkbkpeccddejaaDoor

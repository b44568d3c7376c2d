/-
  The walks of seat b6604503a, eighth part: bound, ZZbound.
-/
import Derived.Test.Qxb6604503aWalkG
namespace Go.Proofs.Qxb6604503a
open Go.RowKit Go.Maps

/-- What a Bind of the name records, by the look-up lk. -/
def dropsLk (lk : ByteArray → Option (Bool × ByteArray)) (ua : Bool) (un : ByteArray) (name : ByteArray) : Bool × ByteArray :=
  if name.toList.isEmpty then (ua, un) else (lk (cutName name)).getD (false, ByteArray.empty)

theorem dropsLk_eq (ks : List ByteArray) (bs : List Bool) (ds : List ByteArray) (ua : Bool) (un name : ByteArray) : dropsLk (look ks bs ds ks.length) ua un name = dropsOf ks bs ds ua un name := rfl

/-- What bound leaves. -/
def BoundPost (C bN bP : Nat) (ua : Bool) (un : ByteArray) (lk : ByteArray → Option (Bool × ByteArray)) (nN nP : Nat) (D : DataW Unit) (w : World) (e : Ending) (w' : World) : Prop :=
  e = .returned (.tuple #[]) ∧ Stm w' C bN bP ua un lk nN nP D ∧ w.grownBy w' (some bP)

section
variable {w : World} {C bN bP : Nat} {ua : Bool} {un : ByteArray} {lk : ByteArray → Option (Bool × ByteArray)} {nN nP : Nat} {D : DataW Unit}

theorem eff_alloc (w : World) (o : Obj) : Eff w (w.alloc o) none := ⟨World.grownBy_alloc w o none, fun r hr => by cases hr⟩
theorem Stm.alloc (h : Stm w C bN bP ua un lk nN nP D) (o : Obj) : Stm (w.alloc o) C bN bP ua un lk nN nP D := h.eff (eff_alloc w o) (by simp) (by simp)
theorem Stm.drew (h : Stm w C bN bP ua un lk nN nP D) : Stm w.drew C bN bP ua un lk nN nP D := ⟨h.box, h.named, h.ports, h.ne⟩

theorem grown_alloc_drew {w w1 : World} {o : Obj} {row : Option Nat} (h : (w.alloc o).grownBy w1 row) : w.grownBy w1 row :=
  ⟨h.os, h.tape, h.output, Nat.le_trans (by simp) h.size, fun k hk hne => (h.block k (by simp; omega) hne).trans (Below.heap_alloc w o k hk)⟩

/-- delete(c.dropPortals, p). -/
theorem Stm.del (h : Stm w C bN bP ua un lk nN nP D) {p : ByteArray} (hp : p.size ≤ maxLen) (d : ByteArray) :
    ∃ w1, (Builtin.delete_ #[37, 9] 0 #[.map (some bP), .string p]).run Try.prog w = .ok (.tuple #[]) w1 ∧ Stm w1 C bN bP ua un lk nN (nP + 1) (bindD D p (false, d)) ∧ w.grownBy w1 (some bP) := by
  obtain ⟨w1, hrun, hown1, ht⟩ := h.ports.drop law Try.underlying37 (hS hp) 0
  exact ⟨w1, hrun, h.port ht.grown (hown1.mono (Nat.le_succ _)), ht.grown⟩

/-- c.dropPortals[p] = d. -/
theorem Stm.put (h : Stm w C bN bP ua un lk nN nP D) {p d : ByteArray} (hp : p.size ≤ maxLen) (hd : d.size ≤ maxLen) (hn : nP < maxLen) :
    ∃ w1, (Instr.mapUpdate 37 (.map (some bP)) (.string p) (.string d)).run Try.prog w = .ok () w1 ∧ Stm w1 C bN bP ua un lk nN (nP + 1) (bindD D p (true, d)) ∧ w.grownBy w1 (some bP) := by
  obtain ⟨w1, hrun, hown1, hg⟩ := h.ports.update law Try.underlying37 hn (hS hp) (eS hd)
  exact ⟨w1, hrun, h.port hg hown1, hg⟩

end

set_option maxRecDepth 20000 in
set_option maxHeartbeats 400000 in
theorem bound_named_none (w : World) (C bN bP : Nat) (ua : Bool) (un : ByteArray) (lk : ByteArray → Option (Bool × ByteArray)) (nN nP : Nat) (D : DataW Unit) (S : Stm w C bN bP ua un lk nN nP D) (p name : ByteArray) (hp : p.size ≤ maxLen) (hnm : name.size ≤ maxLen)
    (hem : name.toList.isEmpty = false) (hlk : lk (cutName name) = none) :
    Calls Try.prog 26 #[.pointer (some ⟨C, 0, none⟩), .string p, .string name] w fun e w' => BoundPost C bN bP ua un lk nN (nP + 1) (bindD D p (dropsLk lk ua un name)) w e w' := by
  have S1 := (S.alloc (.cells #[.bool false, .string ⟨#[]⟩] 57)).drew
  have c0 := old_cell S.c0
  have c6 := old_cell S.c6
  obtain ⟨w1, hrun, T, hg⟩ := S1.del hp ByteArray.empty
  have hlook : (Instr.lookup 55 (.map (some bN)) (.string (cutName name)) true).run Try.prog (w.alloc (.cells #[.bool false, .string ⟨#[]⟩] 57)).drew = .ok (.tuple #[.pointer none, .bool false]) (w.alloc (.cells #[.bool false, .string ⟨#[]⟩] 57)).drew := by
    rcases S1.look (Nat.le_trans (cutName_size name) hnm) with ⟨_, h⟩ | ⟨q, b, h1, _⟩
    · exact h
    · rw [hlk] at h1; cases h1
  have HT : Hid (Stm w1 C bN bP ua un lk nN (nP + 1) (bindD D p (dropsLk lk ua un name)) ∧ w.grownBy w1 (some bP)) := by
    refine ⟨?_, grown_alloc_drew (w := w) ⟨hg.os, hg.tape, hg.output, hg.size, hg.block⟩⟩
    have e : dropsLk lk ua un name = (false, ByteArray.empty) := by simp [dropsLk, hem, hlk]
    rw [e]; exact T
  clear S S1 T hg hlk
  go_enter Try.func26, Try.ntmps26
  go_wp2
  go_region_with (go_at_call 30; refine (nameKey_any name _ hnm).mono ?_; rintro e w' ⟨rfl, rfl⟩)
  all_goals go_wp2
  all_goals go_end0
  all_goals exact ⟨rfl, HT.out.1, HT.out.2⟩

set_option maxRecDepth 20000 in
set_option maxHeartbeats 400000 in
theorem bound_named_false (w : World) (C bN bP : Nat) (ua : Bool) (un : ByteArray) (lk : ByteArray → Option (Bool × ByteArray)) (nN nP : Nat) (D : DataW Unit) (S : Stm w C bN bP ua un lk nN nP D) (p name : ByteArray) (hp : p.size ≤ maxLen) (hnm : name.size ≤ maxLen)
    (hem : name.toList.isEmpty = false) (d : ByteArray) (hlk : lk (cutName name) = some (false, d)) :
    Calls Try.prog 26 #[.pointer (some ⟨C, 0, none⟩), .string p, .string name] w fun e w' => BoundPost C bN bP ua un lk nN (nP + 1) (bindD D p (dropsLk lk ua un name)) w e w' := by
  have S1 := (S.alloc (.cells #[.bool false, .string ⟨#[]⟩] 57)).drew
  have S2 := (S.alloc (.cells #[.bool false, .string d] 57)).drew
  have c0 := old_cell S.c0
  have c6 := old_cell S.c6
  obtain ⟨w1, hrun, T, hg⟩ := S2.del hp d
  obtain ⟨b, hlook, q2, q3⟩ : ∃ b, (Instr.lookup 55 (.map (some bN)) (.string (cutName name)) true).run Try.prog (w.alloc (.cells #[.bool false, .string ⟨#[]⟩] 57)).drew = .ok (.tuple #[.pointer (some ⟨b, 0, none⟩), .bool true]) (w.alloc (.cells #[.bool false, .string ⟨#[]⟩] 57)).drew ∧
      (w.alloc (.cells #[.bool false, .string ⟨#[]⟩] 57)).cell? ⟨b, 2, none⟩ = some (.bool false) ∧ (w.alloc (.cells #[.bool false, .string ⟨#[]⟩] 57)).cell? ⟨b, 3, none⟩ = some (.string d) := by
    rcases S1.look (Nat.le_trans (cutName_size name) hnm) with ⟨h, _⟩ | ⟨q, b, h1, h2, h3⟩
    · rw [hlk] at h; cases h
    · rw [hlk] at h1; cases h1
      exact ⟨b, h2, cell_of_row _ _ 2 _ 63 (0, 0) h3, cell_of_row _ _ 3 _ 63 (0, 0) h3⟩
  have HT : Hid (Stm w1 C bN bP ua un lk nN (nP + 1) (bindD D p (dropsLk lk ua un name)) ∧ w.grownBy w1 (some bP)) := by
    refine ⟨?_, grown_alloc_drew (w := w) ⟨hg.os, hg.tape, hg.output, hg.size, hg.block⟩⟩
    have e : dropsLk lk ua un name = (false, d) := by simp [dropsLk, hem, hlk]
    rw [e]; exact T
  clear S S1 S2 T hg hlk
  go_enter Try.func26, Try.ntmps26
  go_wp2
  go_region_with (go_at_call 30; refine (nameKey_any name _ hnm).mono ?_; rintro e w' ⟨rfl, rfl⟩)
  all_goals go_wp2
  all_goals go_end0
  all_goals exact ⟨rfl, HT.out.1, HT.out.2⟩

set_option maxRecDepth 20000 in
set_option maxHeartbeats 400000 in
theorem bound_named_true (w : World) (C bN bP : Nat) (ua : Bool) (un : ByteArray) (lk : ByteArray → Option (Bool × ByteArray)) (nN nP : Nat) (D : DataW Unit) (S : Stm w C bN bP ua un lk nN nP D) (p name : ByteArray) (hp : p.size ≤ maxLen) (hnm : name.size ≤ maxLen)
    (hem : name.toList.isEmpty = false) (d : ByteArray) (hlk : lk (cutName name) = some (true, d)) (hd : d.size ≤ maxLen) (hn : nP < maxLen) :
    Calls Try.prog 26 #[.pointer (some ⟨C, 0, none⟩), .string p, .string name] w fun e w' => BoundPost C bN bP ua un lk nN (nP + 1) (bindD D p (dropsLk lk ua un name)) w e w' := by
  have S1 := (S.alloc (.cells #[.bool false, .string ⟨#[]⟩] 57)).drew
  have S2 := (S.alloc (.cells #[.bool true, .string d] 57)).drew.drew
  have c0 := old_cell S.c0
  have c6 := old_cell S.c6
  obtain ⟨w1, hrun, T, hg⟩ := S2.put hp hd hn
  obtain ⟨b, hlook, q2, q3⟩ : ∃ b, (Instr.lookup 55 (.map (some bN)) (.string (cutName name)) true).run Try.prog (w.alloc (.cells #[.bool false, .string ⟨#[]⟩] 57)).drew = .ok (.tuple #[.pointer (some ⟨b, 0, none⟩), .bool true]) (w.alloc (.cells #[.bool false, .string ⟨#[]⟩] 57)).drew ∧
      (w.alloc (.cells #[.bool false, .string ⟨#[]⟩] 57)).cell? ⟨b, 2, none⟩ = some (.bool true) ∧ (w.alloc (.cells #[.bool false, .string ⟨#[]⟩] 57)).cell? ⟨b, 3, none⟩ = some (.string d) := by
    rcases S1.look (Nat.le_trans (cutName_size name) hnm) with ⟨h, _⟩ | ⟨q, b, h1, h2, h3⟩
    · rw [hlk] at h; cases h
    · rw [hlk] at h1; cases h1
      exact ⟨b, h2, cell_of_row _ _ 2 _ 63 (0, 0) h3, cell_of_row _ _ 3 _ 63 (0, 0) h3⟩
  have HT : Hid (Stm w1 C bN bP ua un lk nN (nP + 1) (bindD D p (dropsLk lk ua un name)) ∧ w.grownBy w1 (some bP)) := by
    refine ⟨?_, grown_alloc_drew (w := w) ⟨hg.os, hg.tape, hg.output, hg.size, hg.block⟩⟩
    have e : dropsLk lk ua un name = (true, d) := by simp [dropsLk, hem, hlk]
    rw [e]; exact T
  clear S S1 S2 T hg hlk
  go_enter Try.func26, Try.ntmps26
  go_wp2
  go_region_with (go_at_call 30; refine (nameKey_any name _ hnm).mono ?_; rintro e w' ⟨rfl, rfl⟩)
  all_goals go_wp2
  all_goals go_region
  all_goals go_wp2
  all_goals go_end0
  all_goals exact ⟨rfl, HT.out.1, HT.out.2⟩

set_option maxRecDepth 20000 in
set_option maxHeartbeats 400000 in
theorem bound_un_false (w : World) (C bN bP : Nat) (un : ByteArray) (lk : ByteArray → Option (Bool × ByteArray)) (nN nP : Nat) (D : DataW Unit) (S : Stm w C bN bP false un lk nN nP D) (p name : ByteArray) (hp : p.size ≤ maxLen) (hnm : name.size ≤ maxLen)
    (hem : name.toList.isEmpty = true) :
    Calls Try.prog 26 #[.pointer (some ⟨C, 0, none⟩), .string p, .string name] w fun e w' => BoundPost C bN bP false un lk nN (nP + 1) (bindD D p (dropsLk lk false un name)) w e w' := by
  have S1 := (S.alloc (.cells #[.bool false, .string ⟨#[]⟩] 57)).drew
  have S2 := (S.alloc (.cells #[.bool false, .string un] 57)).drew
  have c0 := old_cell S.c0
  have c4 := old_cell S.c4
  have c5 := old_cell S.c5
  have c6 := old_cell S.c6
  obtain ⟨w1, hrun, T, hg⟩ := S2.del hp un
  obtain ⟨v, q, hlook⟩ : ∃ v q, (Instr.lookup 55 (.map (some bN)) (.string (cutName name)) true).run Try.prog (w.alloc (.cells #[.bool false, .string ⟨#[]⟩] 57)).drew = .ok (.tuple #[v, .bool q]) (w.alloc (.cells #[.bool false, .string ⟨#[]⟩] 57)).drew := by
    rcases S1.look (Nat.le_trans (cutName_size name) hnm) with ⟨_, h⟩ | ⟨q, b, _, h, _⟩
    · exact ⟨_, _, h⟩
    · exact ⟨_, _, h⟩
  have HT : Hid (Stm w1 C bN bP false un lk nN (nP + 1) (bindD D p (dropsLk lk false un name)) ∧ w.grownBy w1 (some bP)) := by
    refine ⟨?_, grown_alloc_drew (w := w) ⟨hg.os, hg.tape, hg.output, hg.size, hg.block⟩⟩
    have e : dropsLk lk false un name = (false, un) := by simp [dropsLk, hem]
    rw [e]; exact T
  clear S S1 S2 T hg
  go_enter Try.func26, Try.ntmps26
  go_wp2
  go_region_with (go_at_call 30; refine (nameKey_any name _ hnm).mono ?_; rintro e w' ⟨rfl, rfl⟩)
  all_goals go_wp2
  all_goals go_end0
  all_goals exact ⟨rfl, HT.out.1, HT.out.2⟩

set_option maxRecDepth 20000 in
set_option maxHeartbeats 400000 in
theorem bound_un_true (w : World) (C bN bP : Nat) (un : ByteArray) (lk : ByteArray → Option (Bool × ByteArray)) (nN nP : Nat) (D : DataW Unit) (S : Stm w C bN bP true un lk nN nP D) (p name : ByteArray) (hp : p.size ≤ maxLen) (hnm : name.size ≤ maxLen)
    (hem : name.toList.isEmpty = true) (hd : un.size ≤ maxLen) (hn : nP < maxLen) :
    Calls Try.prog 26 #[.pointer (some ⟨C, 0, none⟩), .string p, .string name] w fun e w' => BoundPost C bN bP true un lk nN (nP + 1) (bindD D p (dropsLk lk true un name)) w e w' := by
  have S1 := (S.alloc (.cells #[.bool false, .string ⟨#[]⟩] 57)).drew
  have S2 := (S.alloc (.cells #[.bool true, .string un] 57)).drew.drew
  have c0 := old_cell S.c0
  have c4 := old_cell S.c4
  have c5 := old_cell S.c5
  have c6 := old_cell S.c6
  obtain ⟨w1, hrun, T, hg⟩ := S2.put hp hd hn
  obtain ⟨v, q, hlook⟩ : ∃ v q, (Instr.lookup 55 (.map (some bN)) (.string (cutName name)) true).run Try.prog (w.alloc (.cells #[.bool false, .string ⟨#[]⟩] 57)).drew = .ok (.tuple #[v, .bool q]) (w.alloc (.cells #[.bool false, .string ⟨#[]⟩] 57)).drew := by
    rcases S1.look (Nat.le_trans (cutName_size name) hnm) with ⟨_, h⟩ | ⟨q, b, _, h, _⟩
    · exact ⟨_, _, h⟩
    · exact ⟨_, _, h⟩
  have HT : Hid (Stm w1 C bN bP true un lk nN (nP + 1) (bindD D p (dropsLk lk true un name)) ∧ w.grownBy w1 (some bP)) := by
    refine ⟨?_, grown_alloc_drew (w := w) ⟨hg.os, hg.tape, hg.output, hg.size, hg.block⟩⟩
    have e : dropsLk lk true un name = (true, un) := by simp [dropsLk, hem]
    rw [e]; exact T
  clear S S1 S2 T hg
  go_enter Try.func26, Try.ntmps26
  go_wp2
  go_region_with (go_at_call 30; refine (nameKey_any name _ hnm).mono ?_; rintro e w' ⟨rfl, rfl⟩)
  all_goals go_wp2
  all_goals go_region
  all_goals go_wp2
  all_goals go_end0
  all_goals exact ⟨rfl, HT.out.1, HT.out.2⟩

theorem bound_any (w : World) (C bN bP : Nat) (ua : Bool) (un : ByteArray) (lk : ByteArray → Option (Bool × ByteArray)) (nN nP : Nat) (D : DataW Unit) (S : Stm w C bN bP ua un lk nN nP D) (p name : ByteArray) (hp : p.size ≤ maxLen) (hnm : name.size ≤ maxLen)
    (hun : un.size ≤ maxLen) (hlz : ∀ s q, lk s = some q → q.2.size ≤ maxLen) (hn : nP < maxLen) :
    Calls Try.prog 26 #[.pointer (some ⟨C, 0, none⟩), .string p, .string name] w fun e w' => BoundPost C bN bP ua un lk nN (nP + 1) (bindD D p (dropsLk lk ua un name)) w e w' := by
  cases hem : name.toList.isEmpty
  · cases hlk : lk (cutName name) with
    | none => exact bound_named_none w C bN bP ua un lk nN nP D S p name hp hnm hem hlk
    | some q =>
      obtain ⟨a, d⟩ := q
      cases a
      · exact bound_named_false w C bN bP ua un lk nN nP D S p name hp hnm hem d hlk
      · exact bound_named_true w C bN bP ua un lk nN nP D S p name hp hnm hem d hlk (hlz _ _ hlk) hn
  · cases ua
    · exact bound_un_false w C bN bP un lk nN nP D S p name hp hnm hem
    · exact bound_un_true w C bN bP un lk nN nP D S p name hp hnm hem hun hn

theorem zzBound_any (w : World) (C bN bP : Nat) (ua : Bool) (un : ByteArray) (lk : ByteArray → Option (Bool × ByteArray)) (nN nP : Nat) (D : DataW Unit) (S : Stm w C bN bP ua un lk nN nP D) (p name : ByteArray) (hp : p.size ≤ maxLen) (hnm : name.size ≤ maxLen)
    (hun : un.size ≤ maxLen) (hlz : ∀ s q, lk s = some q → q.2.size ≤ maxLen) (hn : nP < maxLen) :
    Calls Try.prog 17 #[.pointer (some ⟨C, 0, none⟩), .string p, .string name] w fun e w' => BoundPost C bN bP ua un lk nN (nP + 1) (bindD D p (dropsLk lk ua un name)) w e w' := by
  go_enter Try.func17, Try.ntmps17
  go_wp2_with fail
  refine (bound_any w C bN bP ua un lk nN nP D S p name hp hnm hun hlz hn).mono ?_
  rintro e w1 ⟨rfl, h1, h2⟩
  go_wp2
  go_end0
  exact ⟨rfl, h1, h2⟩
end Go.Proofs.Qxb6604503a

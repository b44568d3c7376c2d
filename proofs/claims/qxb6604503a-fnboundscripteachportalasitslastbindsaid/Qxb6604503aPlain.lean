/-
  Seat b6604503a: plain facts: a table of portals as read (a map's datum), what a Bind does to it, what the named statement may drop. No Go function in sight.
-/
import Derived.Maps.Ext
import Derived.Maps.OwnSet
import Derived.Maps.StringElems
namespace Go.Proofs.Qxb6604503a
open Go.Maps

/-- A string as a map's key, and as a datum. -/
def kS (s : ByteArray) : Lit := .string s.data.toList
def dS (s : ByteArray) : DataW Unit := .lit (.string s.data.toList)

theorem bytes_ext {s t : ByteArray} (h : s.data.toList = t.data.toList) : s = t := by
  cases s; cases t; simp at h; rw [h]
theorem kS_inj {s t : ByteArray} (h : kS s = kS t) : s = t := by
  unfold kS at h; injection h with h; exact bytes_ext h
theorem dS_inj {s t : ByteArray} (h : dS s = dS t) : s = t := by
  unfold dS at h; injection h with h; injection h with h; exact bytes_ext h
theorem kS_key (s : ByteArray) : WideAt.IsKeyLit (kS s) := trivial

/-- What a Bind leaves: the portal mapped to what may be dropped, or struck. -/
def bindD (D : DataW Unit) (p : ByteArray) (r : Bool × ByteArray) : DataW Unit := if r.1 then D.put (kS p) (dS r.2) else D.del (kS p)

theorem bindD_isMap {D : DataW Unit} (h : IsMap D) (p : ByteArray) (r : Bool × ByteArray) : IsMap (bindD D p r) := by
  unfold bindD; split
  · exact h.put _ _
  · exact h.del _

theorem has_bindD_same {D : DataW Unit} (h : IsMap D) (p : ByteArray) (r : Bool × ByteArray) : Maps.has (bindD D p r) (kS p) = r.1 := by
  unfold bindD
  cases hr : r.1
  · simp [has_del_same]
  · simp [has_put_same h (kS_key p)]

theorem has_bindD_other {D : DataW Unit} (p : ByteArray) (r : Bool × ByteArray) {k : Lit} (e : k ≠ kS p) : Maps.has (bindD D p r) k = Maps.has D k := by
  unfold bindD
  cases hr : r.1
  · simp [has_del_other e]
  · simp [has_put_other e]

theorem atKey_bindD_same {D : DataW Unit} (h : IsMap D) (p : ByteArray) (r : Bool × ByteArray) (z : DataW Unit) : (bindD D p r).atKey (kS p) z = if r.1 then dS r.2 else z := by
  unfold bindD
  cases hr : r.1
  · simp [atKey_del_same]
  · simp [atKey_put_same h (kS_key p)]

theorem atKey_bindD_other {D : DataW Unit} (p : ByteArray) (r : Bool × ByteArray) {k : Lit} (e : k ≠ kS p) (z : DataW Unit) : (bindD D p r).atKey k z = D.atKey k z := by
  unfold bindD
  cases hr : r.1
  · simp [atKey_del_other e]
  · simp [atKey_put_other e]

/-- The same Bind twice is one. -/
theorem bindD_twice {D : DataW Unit} (h : IsMap D) (p : ByteArray) (r : Bool × ByteArray) (c1 : Canon (bindD (bindD D p r) p r)) (c2 : Canon (bindD D p r)) : bindD (bindD D p r) p r = bindD D p r := by
  have h1 := bindD_isMap h p r
  refine Maps.ext c1 c2 (fun k => ?_) (fun k z _ => ?_)
  · by_cases e : k = kS p
    · subst e; rw [has_bindD_same h1, has_bindD_same h]
    · rw [has_bindD_other p r e]
  · by_cases e : k = kS p
    · subst e; rw [atKey_bindD_same h1, atKey_bindD_same h]
    · rw [atKey_bindD_other p r e]

/-- A Bind of a portal that is bound again later has left nothing. -/
theorem bindD_over {D : DataW Unit} (h : IsMap D) (p q : ByteArray) (a b c : Bool × ByteArray) (c1 : Canon (bindD (bindD (bindD D p a) q b) p c)) (c2 : Canon (bindD (bindD D q b) p c)) : bindD (bindD (bindD D p a) q b) p c = bindD (bindD D q b) p c := by
  have h1 := bindD_isMap h p a
  have h2 := bindD_isMap h1 q b
  have h3 := bindD_isMap h q b
  refine Maps.ext c1 c2 (fun k => ?_) (fun k z _ => ?_)
  · by_cases e : k = kS p
    · subst e; rw [has_bindD_same h2, has_bindD_same h3]
    · rw [has_bindD_other p c e, has_bindD_other p c e]
      by_cases e2 : k = kS q
      · subst e2; rw [has_bindD_same h1, has_bindD_same h]
      · rw [has_bindD_other q b e2, has_bindD_other q b e2, has_bindD_other p a e]
  · by_cases e : k = kS p
    · subst e; rw [atKey_bindD_same h2, atKey_bindD_same h3]
    · rw [atKey_bindD_other p c e, atKey_bindD_other p c e]
      by_cases e2 : k = kS q
      · subst e2; rw [atKey_bindD_same h1, atKey_bindD_same h]
      · rw [atKey_bindD_other q b e2, atKey_bindD_other q b e2, atKey_bindD_other p a e]

/-- The table built of the first j pairs. -/
def tab (pk pv : List ByteArray) : Nat → DataW Unit
  | 0 => .map []
  | j + 1 => (tab pk pv j).put (kS (pk.getD j ByteArray.empty)) (dS (pv.getD j ByteArray.empty))

/-- The last of the first k entries under the key s. -/
def look (ks : List ByteArray) (as : List Bool) (ds : List ByteArray) : Nat → ByteArray → Option (Bool × ByteArray)
  | 0, _ => none
  | k + 1, s => if ks.getD k ByteArray.empty = s then some (as.getD k false, ds.getD k ByteArray.empty) else look ks as ds k s

/-- The first 63 bytes of a name. -/
def cutName (s : ByteArray) : ByteArray := s.extract 0 (min s.size 63)

theorem cutName_size (s : ByteArray) : (cutName s).size ≤ s.size := by
  unfold cutName; rw [ByteArray.size_extract]; omega

/-- What the statement that a Bind names may drop. -/
def dropsOf (ks : List ByteArray) (as : List Bool) (ds : List ByteArray) (ua : Bool) (un : ByteArray) (name : ByteArray) : Bool × ByteArray :=
  if name.toList.isEmpty then (ua, un) else (look ks as ds ks.length (cutName name)).getD (false, ByteArray.empty)
end Go.Proofs.Qxb6604503a

/-
  Seat b6613651aD: THE PLAIN LAW: two texts joined by a dot, an empty one left out: joining nests.
-/
import Derived.WalkKit
namespace Go.Proofs.Qxb6613651aDoor
open Go

def jl (k s : List UInt8) : List UInt8 := if s.isEmpty = true then k else if k.isEmpty = true then s else k ++ 46 :: s
theorem jl_assoc (a b c : List UInt8) : jl a (jl b c) = jl (jl a b) c := by
  cases a <;> cases b <;> cases c <;> simp [jl]
def J (key sub : ByteArray) : ByteArray := if sub.toList.isEmpty = true then key else if key.toList.isEmpty = true then sub else key ++ (⟨#[46]⟩ ++ sub)
theorem bext {a b : ByteArray} (h : a.data.toList = b.data.toList) : a = b := ByteArray.ext (Array.toList_inj.1 h)
theorem app_list (a b : ByteArray) : (a ++ b).data.toList = a.data.toList ++ b.data.toList := by simp
theorem J_list (a b : ByteArray) : (J a b).data.toList = jl a.data.toList b.data.toList := by
  unfold J jl
  rw [ByteArray.toList_eq, ByteArray.toList_eq]
  split
  · rfl
  · split
    · rfl
    · simp
theorem J_assoc (a b c : ByteArray) : J a (J b c) = J (J a b) c := bext (by rw [J_list, J_list, J_list, J_list, jl_assoc])
theorem J_size (a b : ByteArray) : (J a b).size ≤ a.size + 1 + b.size := by
  have h : (J a b).data.toList.length = (J a b).size := by simp
  rw [← h, J_list]
  unfold jl
  split
  · simp; omega
  · split
    · simp; 
    · simp; omega
theorem nn {b : ByteArray} (h : (!b.toList.isEmpty) = true) : b.data.toList.isEmpty = false := by rw [ByteArray.toList_eq] at h; simpa using h
theorem ne {b : ByteArray} (h : (!b.toList.isEmpty) = false) : b.data.toList.isEmpty = true := by rw [ByteArray.toList_eq] at h; simpa using h
theorem step1 {a b : ByteArray} (hb : (!b.toList.isEmpty) = true) (ha : (!a.toList.isEmpty) = true) : a ++ ⟨#[46]⟩ ++ b = J a b := bext (by rw [J_list, jl, nn hb, nn ha]; simp)
theorem step2 {a b : ByteArray} (hb : (!b.toList.isEmpty) = true) (ha : (!a.toList.isEmpty) = false) : a ++ b = J a b := bext (by rw [J_list, jl, nn hb, ne ha]; have := ne ha; simp at this ⊢; exact this)
theorem step3 {a b : ByteArray} (hb : (!b.toList.isEmpty) = false) : a = J a b := bext (by rw [J_list, jl, ne hb]; simp)
theorem outer1 {a b c m : ByteArray} (e : m = J a b) (hc : (!c.toList.isEmpty) = true) (hm : (!m.toList.isEmpty) = true) : m ++ ⟨#[46]⟩ ++ c = J (J a b) c := by rw [← e]; exact step1 hc hm
theorem outer2 {a b c m : ByteArray} (e : m = J a b) (hc : (!c.toList.isEmpty) = true) (hm : (!m.toList.isEmpty) = false) : m ++ c = J (J a b) c := by rw [← e]; exact step2 hc hm
theorem outer3 {a b c m : ByteArray} (e : m = J a b) (hc : (!c.toList.isEmpty) = false) : m = J (J a b) c := by rw [← e]; exact step3 hc
theorem J_1 {key sub : ByteArray} (h : sub.toList.isEmpty = true) : J key sub = key := by simp [J, h]
theorem J_2 {key sub : ByteArray} (h : sub.toList.isEmpty = false) (h2 : key.toList.isEmpty = true) : J key sub = sub := by simp [J, h, h2]
theorem J_3 {key sub : ByteArray} (h : sub.toList.isEmpty = false) (h2 : key.toList.isEmpty = false) : J key sub = key ++ (⟨#[46]⟩ ++ sub) := by simp [J, h, h2]

end Go.Proofs.Qxb6613651aDoor

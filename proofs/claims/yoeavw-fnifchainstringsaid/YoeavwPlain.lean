import Derived.Test.YoeavwIf
namespace Go.Proofs.Yoeavw

def elseBlockText (y : ByteArray) : ByteArray := ⟨#[32, 101, 108, 115, 101, 32]⟩ ++ (⟨#[123]⟩ ++ y ++ ⟨#[125]⟩)
def elseT (he : Bool) (y : ByteArray) : ByteArray := match he with | true => elseBlockText y | false => ⟨#[]⟩

theorem ba_ext {a b : ByteArray} (h : a.data.toList = b.data.toList) : a = b := by
  cases a; cases b; simp at h; subst h; rfl

theorem ba_size (a : ByteArray) : a.size = a.data.toList.length := by
  cases a; rfl

theorem elseT_data (he : Bool) (y : ByteArray) : (elseT he y).data.toList = if he then [32, 101, 108, 115, 101, 32, 123] ++ (y.data.toList ++ [125]) else [] := by
  cases he
  · rfl
  · simp [elseT, elseBlockText]

theorem elseT_size (he : Bool) (y : ByteArray) : (elseT he y).size ≤ y.size + 8 := by
  rw [ba_size, elseT_data, ba_size y]
  cases he <;> simp

theorem ifText_data (it cond body et : ByteArray) : (ifText it cond body et).data.toList = [105, 102, 32] ++ (it.data.toList ++ (cond.data.toList ++ ([32, 123] ++ (body.data.toList ++ ([125] ++ et.data.toList))))) := by
  simp [ifText]

theorem ifText_size (it cond body et : ByteArray) : (ifText it cond body et).size = it.size + cond.size + body.size + et.size + 6 := by
  simp only [ba_size, ifText_data, List.length_append, List.length_cons, List.length_nil]
  omega

theorem ifText_head (it cond body et : ByteArray) : ((ifText it cond body et).extract 0 3) = ⟨#[105, 102, 32]⟩ := by
  apply ba_ext
  simp [ifText_data]

theorem init_law (x cond body et : ByteArray) : ifText (x ++ ⟨#[59, 32]⟩) cond body et =
    ⟨#[105, 102, 32]⟩ ++ x ++ ⟨#[59, 32]⟩ ++ (ifText ⟨#[]⟩ cond body et).extract 3 (ifText ⟨#[]⟩ cond body et).size := by
  apply ba_ext
  have h : (ifText ⟨#[]⟩ cond body et).size - 3 = (cond.data.toList ++ 32 :: 123 :: (body.data.toList ++ 125 :: et.data.toList)).length := by
    rw [ifText_size]
    simp only [ba_size, List.length_append, List.length_cons, List.length_nil]
    show 0 + _ + _ + _ + _ - _ = _
    omega
  simp [ifText_data]
  rw [h, List.take_length]
end Go.Proofs.Yoeavw

import Derived.Test.Qxb6000519aMain
import Derived.Test.Qxb6000519aInside
import Derived.Test.Qxb6000519aAtEnd
namespace Go.Proofs.Qxb6000519a
open Go.RowKit Go.PlainAid

theorem same_below {f : FuncId} {args : Array Value} {w : World} (h : Calls Try.prog f args w fun e w' => e = .returned (.bool true) ∧ w = w') :
    Calls Try.prog f args w fun e w' => e = .returned (.bool true) ∧ Below w.heap.size w w' :=
  h.mono fun e w' hw => ⟨hw.1, by rw [← hw.2]; exact Below.refl _ _⟩

theorem law_any (neg : Bool) (z : Int) (d : ByteArray) (p : Int) (w : World) :
    Calls Try.prog 7 #[.bool neg, .int .i64 z, .string d, .int .i64 p] w fun e w' => e = .returned (.bool true) ∧ Below w.heap.size w w' := by
  by_cases hs : d.size ≤ 1048576
  · by_cases hz : z < 0 ∨ 65536 < z
    · exact same_below (early_zeros neg z p d w hs hz)
    · by_cases hp : p < -1 ∨ z + d.size < p
      · exact same_below (early_point neg z p d w hs (by omega) (by omega) hp)
      · by_cases hdg : DigUpto d d.size
        · by_cases hf : 0 < d.size ∧ bt d 0 = 48
          · exact same_below (early_first neg z p d w hs (by omega) (by omega) (by omega) (by omega) hdg hf.1 hf.2)
          · have hf' : 0 < d.size → bt d 0 ≠ 48 := fun h1 h2 => hf ⟨h1, h2⟩
            obtain ⟨zn, rfl⟩ : ∃ n : Nat, z = (n : Int) := ⟨z.toNat, by omega⟩
            by_cases hp1 : p = -1
            · subst hp1
              cases neg
              · exact main_np zn d w hs (by omega) hdg hf'
              · exact main_sp zn d w hs (by omega) hdg hf'
            · obtain ⟨pn, rfl⟩ : ∃ n : Nat, p = (n : Int) := ⟨p.toNat, by omega⟩
              by_cases hin : pn < zn + d.size
              · cases neg
                · exact main_ni zn pn d w hs (by omega) hin hdg hf'
                · exact main_si zn pn d w hs (by omega) hin hdg hf'
              · cases neg
                · exact main_ne zn pn d w hs (by omega) (by omega) hdg hf'
                · exact main_se zn pn d w hs (by omega) (by omega) hdg hf'
        · exact same_below (early_digits neg z p d w hs (by omega) (by omega) (by omega) (by omega) hdg)
  · exact same_below (early_big neg z p d w (by omega))
end Go.Proofs.Qxb6000519a

import Derived.Test.Qxb6601963aStFar
import Derived.Test.Qxb6601963aStM1
import Derived.Test.Qxb6601963aStM2
import Derived.Test.Qxb6601963aStM3
import Derived.Test.Qxb6601963aStM4a
import Derived.Test.Qxb6601963aStM4b
import Derived.Test.Qxb6601963aStM5a
import Derived.Test.Qxb6601963aStM5b
import Derived.Test.Qxb6601963aStM6
import Derived.Test.Qxb6601963aStM7a
import Derived.Test.Qxb6601963aStM7b
import Derived.Test.Qxb6601963aStM7c
import Derived.Test.Qxb6601963aStM8
import Derived.Test.Qxb6601963aStM9a
import Derived.Test.Qxb6601963aStM9b
import Derived.Test.Qxb6601963aStM9c
import Derived.Test.Qxb6601963aStMa
import Derived.Test.Qxb6601963aStMb
import Derived.Test.Qxb6601963aStMc
import Derived.Test.Qxb6601963aStMd
set_option linter.unusedVariables false
namespace Go.Proofs.Qxb6601963a.St
open Go.RowKit

theorem main_any (sv kind nm ov : ByteArray) (gen oc o1 o2 og oe p : Int) (ad : Option Addr) (len cap : Nat) (z : Nat → Int) (kn ex oo ou : Bool) (w : World) (h : IsW w ad len cap z)
    (z1 : sv.size ≤ maxLen) (z3 : kind.size ≤ maxLen) (z4 : nm.size ≤ maxLen) (z5 : ov.size ≤ maxLen)
    (g0 : 0 ≤ gen) (g1 : gen ≤ 18446744073709551615) (e0 : 0 ≤ oe) (e1 : oe ≤ 18446744073709551615) (p0 : 0 ≤ p) :
    Calls Try.prog 3 #[.agg #[.bool kn, .string sv, .int .u64 gen, .bool ex, .slice ad len cap], .agg #[.int .i64 oc, .int .i64 o1, .int .i64 o2, .string kind, .string nm, .string ov, .int .u64 og, .int .u64 oe, .bool oo, .bool ou], .int .u64 p] w fun e w' => e = .returned (.bool true) ∧ Below w.heap.size w w' := by
  by_cases hn : sv.size + len + kind.size + nm.size + ov.size ≤ 1048576 ∧ len ≤ 131072 ∧ sv.size + 8 * len + kind.size + nm.size + ov.size ≤ 1048576 ∧ wellB kn ex gen len z = true
  case neg => exact main_far sv kind nm ov gen oc o1 o2 og oe p ad len cap z kn ex oo ou w h z1 z3 z4 z5 hn
  obtain ⟨h1, h2, h3, hw⟩ := hn
  by_cases hr : kind.toList = kRead
  · cases kn with
    | false => exact m_read0 sv kind nm ov gen oc o1 o2 og oe p ad len cap z ex oo ou w h z1 z3 z4 z5 h1 h2 h3 hw hr
    | true =>
      cases hv : sv.toList == ov.toList with
      | false => exact m_read1 sv kind nm ov gen oc o1 o2 og oe p ad len cap z ex oo ou w h z1 z3 z4 z5 h1 h2 h3 hw hr hv
      | true => exact m_read2 sv kind nm ov gen oc o1 o2 og oe p ad len cap z ex oo ou w h z1 z3 z4 z5 h1 h2 h3 hw hr hv
  by_cases hk : kind.toList = kWrite
  · cases ou with
    | false =>
      cases kn with
      | false => exact m_writea sv kind nm ov gen oc o1 o2 og oe p ad len cap z ex oo w h z1 z3 z4 z5 h1 h2 h3 hw hk
      | true => exact m_writeb sv kind nm ov gen oc o1 o2 og oe p ad len cap z ex oo w h z1 z3 z4 z5 h1 h2 h3 hw hk
    | true =>
      cases kn with
      | false => exact m_wunk0 sv kind nm ov gen oc o1 o2 og oe p ad len cap z ex oo w h z1 z3 z4 z5 h1 h2 h3 hw hk p0
      | true =>
        by_cases hg : gen = 18446744073709551615
        · exact m_g1 sv kind nm ov gen oc o1 o2 og oe p ad len cap z ex oo w h z1 z3 z4 z5 h1 h2 h3 hw hk (by simpa using hg)
        · exact m_wunk1 sv kind nm ov gen oc o1 o2 og oe p ad len cap z ex oo w h z1 z3 z4 z5 h1 h2 h3 hw hk g0 (by omega)
  by_cases hc : kind.toList = kCas
  · cases ou with
    | true =>
      by_cases hg : oe = 18446744073709551615
      · exact m_g2 sv kind nm ov gen oc o1 o2 og oe p ad len cap z kn ex oo w h z1 z3 z4 z5 h1 h2 h3 hw hc (by simpa using hg)
      · exact m_cunk sv kind nm ov gen oc o1 o2 og oe p ad len cap z kn ex oo w h z1 z3 z4 z5 h1 h2 h3 hw hc e0 (by omega)
    | false =>
      cases oo with
      | true =>
        cases kn with
        | false => exact m_cok0 sv kind nm ov gen oc o1 o2 og oe p ad len cap z ex w h z1 z3 z4 z5 h1 h2 h3 hw hc
        | true =>
          cases ha : admB true ex gen z len oe with
          | false => exact m_cokn sv kind nm ov gen oc o1 o2 og oe p ad len cap z ex w h z1 z3 z4 z5 h1 h2 h3 hw hc ha
          | true => exact m_coky sv kind nm ov gen oc o1 o2 og oe p ad len cap z ex w h z1 z3 z4 z5 h1 h2 h3 hw hc ha
      | false =>
        cases kn with
        | false => exact m_cf0 sv kind nm ov gen oc o1 o2 og oe p ad len cap z ex w h z1 z3 z4 z5 h1 h2 h3 hw hc
        | true =>
          cases ex with
          | true =>
            by_cases hg : gen = oe
            · exact m_cf1 sv kind nm ov gen oc o1 o2 og oe p ad len cap z w h z1 z3 z4 z5 h1 h2 h3 hw hc hg
            · exact m_cf1n sv kind nm ov gen oc o1 o2 og oe p ad len cap z w h z1 z3 z4 z5 h1 h2 h3 hw hc hg
          | false =>
            by_cases hs : oe < gen ∨ hasB z len oe = true
            · exact m_cf2 sv kind nm ov gen oc o1 o2 og oe p ad len cap z w h z1 z3 z4 z5 h1 h2 h3 hw hc hs
            · have hge : gen ≤ oe := Int.not_lt.1 (fun h' => hs (Or.inl h'))
              have hno : hasB z len oe = false := by
                cases hb : hasB z len oe with
                | false => rfl
                | true => exact absurd (Or.inr hb) hs
              by_cases hne : oe = gen
              · by_cases ht : gen + len = 18446744073709551615
                · exact m_g3 sv kind nm ov gen oc o1 o2 og oe p ad len cap z w h z1 z3 z4 z5 h1 h2 h3 hw hc (by simpa using hne) g0 g1 (by rw [show (18446744073709551615 : Int) - gen - len = 0 by omega]; rfl)
                · exact m_cf3g sv kind nm ov gen oc o1 o2 og oe p ad len cap z w h z1 z3 z4 z5 h1 h2 h3 hw hc hge hno g0 e1 (fun h' => ht h'.2) hne
              · exact m_cf3 sv kind nm ov gen oc o1 o2 og oe p ad len cap z w h z1 z3 z4 z5 h1 h2 h3 hw hc hge hno g0 e1 (fun h' => hne h'.1) hne
  · exact m_other sv kind nm ov gen oc o1 o2 og oe p ad len cap z kn ex oo ou w h z1 z3 z4 z5 h1 h2 h3 hw hr hk hc
end Go.Proofs.Qxb6601963a.St

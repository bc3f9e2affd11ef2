/-
  The first test of nodeOk, as a Boolean of the node ('topB'), and its scenarios: which of its parts decide. Printed by a program (gen_top.py). No conditions.
-/
import Derived.Test.YtejhffcjamdffaaNode
namespace Go.Proofs.Ytejhffcjamdffaa
open Go.RowKit

def topB (nd : Nd) : Bool := (nd.fold && (nd.op != 3)) || (nd.lazy && (decide (nd.op < 14) || decide (17 < nd.op))) || (((nd.mn != 0) || (nd.mx != 0)) && (nd.op != 17)) || (((nd.cap != 0) || (!nd.name.toList.isEmpty)) && (nd.op != 13)) || (decide (0 < nd.runes.length) && (nd.op != 3) && (nd.op != 4))

def consB (n3 l14 g17 n17 n13 n4 : Bool) : Bool := ((!(n3 == false) || (l14 && !g17 && n17 && n13 && n4)) && (!(n4 == false) || (l14 && !g17 && n17 && n13 && n3)) && (!(n13 == false) || (l14 && !g17 && n17 && n4 && n3)) && (!(n17 == false) || (!l14 && !g17 && n13 && n4 && n3)) && (!l14 || !g17))
def scenB (F L n3 l14 g17 m x n17 c e n13 r n4 : Bool) : Bool :=
    (((F == false) && ((L == false) && ((m == false) && ((x == false) && ((c == false) && ((e == false) && ((r == false) && (false == ((F && n3) || (L && (l14 || g17)) || ((m || x) && n17) || ((c || e) && n13) || (r && n3 && n4))))))))))
      || (((F == false) && ((L == false) && ((m == false) && ((x == false) && ((c == false) && ((e == false) && ((r == true) && ((n3 == false) && (false == ((F && n3) || (L && (l14 || g17)) || ((m || x) && n17) || ((c || e) && n13) || (r && n3 && n4)))))))))))
      || (((F == false) && ((L == false) && ((m == false) && ((x == false) && ((c == false) && ((e == false) && ((r == true) && ((n3 == true) && ((n4 == false) && (false == ((F && n3) || (L && (l14 || g17)) || ((m || x) && n17) || ((c || e) && n13) || (r && n3 && n4))))))))))))
      || (((F == false) && ((L == false) && ((m == false) && ((x == false) && ((c == false) && ((e == false) && ((r == true) && ((n3 == true) && ((n4 == true) && (true == ((F && n3) || (L && (l14 || g17)) || ((m || x) && n17) || ((c || e) && n13) || (r && n3 && n4))))))))))))
      || (((F == false) && ((L == false) && ((m == false) && ((x == false) && ((c == true) && ((n13 == false) && ((r == false) && (false == ((F && n3) || (L && (l14 || g17)) || ((m || x) && n17) || ((c || e) && n13) || (r && n3 && n4))))))))))
      || (((F == false) && ((L == false) && ((m == false) && ((x == false) && ((c == true) && ((n13 == false) && ((r == true) && ((n3 == true) && ((n4 == true) && (true == ((F && n3) || (L && (l14 || g17)) || ((m || x) && n17) || ((c || e) && n13) || (r && n3 && n4))))))))))))
      || (((F == false) && ((L == false) && ((m == false) && ((x == false) && ((c == false) && ((e == true) && ((n13 == false) && ((r == false) && (false == ((F && n3) || (L && (l14 || g17)) || ((m || x) && n17) || ((c || e) && n13) || (r && n3 && n4)))))))))))
      || (((F == false) && ((L == false) && ((m == false) && ((x == false) && ((c == false) && ((e == true) && ((n13 == false) && ((r == true) && ((n3 == true) && ((n4 == true) && (true == ((F && n3) || (L && (l14 || g17)) || ((m || x) && n17) || ((c || e) && n13) || (r && n3 && n4)))))))))))))
      || (((F == false) && ((L == false) && ((m == false) && ((x == false) && ((c == true) && ((n13 == true) && (true == ((F && n3) || (L && (l14 || g17)) || ((m || x) && n17) || ((c || e) && n13) || (r && n3 && n4)))))))))
      || (((F == false) && ((L == false) && ((m == false) && ((x == false) && ((c == false) && ((e == true) && ((n13 == true) && (true == ((F && n3) || (L && (l14 || g17)) || ((m || x) && n17) || ((c || e) && n13) || (r && n3 && n4))))))))))
      || (((F == false) && ((L == false) && ((m == true) && ((n17 == false) && ((c == false) && ((e == false) && ((r == false) && (false == ((F && n3) || (L && (l14 || g17)) || ((m || x) && n17) || ((c || e) && n13) || (r && n3 && n4))))))))))
      || (((F == false) && ((L == false) && ((m == true) && ((n17 == false) && ((c == false) && ((e == false) && ((r == true) && ((n3 == true) && ((n4 == true) && (true == ((F && n3) || (L && (l14 || g17)) || ((m || x) && n17) || ((c || e) && n13) || (r && n3 && n4))))))))))))
      || (((F == false) && ((L == false) && ((m == true) && ((n17 == false) && ((c == true) && ((n13 == true) && (true == ((F && n3) || (L && (l14 || g17)) || ((m || x) && n17) || ((c || e) && n13) || (r && n3 && n4)))))))))
      || (((F == false) && ((L == false) && ((m == true) && ((n17 == false) && ((c == false) && ((e == true) && ((n13 == true) && (true == ((F && n3) || (L && (l14 || g17)) || ((m || x) && n17) || ((c || e) && n13) || (r && n3 && n4))))))))))
      || (((F == false) && ((L == false) && ((m == false) && ((x == true) && ((n17 == false) && ((c == false) && ((e == false) && ((r == false) && (false == ((F && n3) || (L && (l14 || g17)) || ((m || x) && n17) || ((c || e) && n13) || (r && n3 && n4)))))))))))
      || (((F == false) && ((L == false) && ((m == false) && ((x == true) && ((n17 == false) && ((c == false) && ((e == false) && ((r == true) && ((n3 == true) && ((n4 == true) && (true == ((F && n3) || (L && (l14 || g17)) || ((m || x) && n17) || ((c || e) && n13) || (r && n3 && n4)))))))))))))
      || (((F == false) && ((L == false) && ((m == false) && ((x == true) && ((n17 == false) && ((c == true) && ((n13 == true) && (true == ((F && n3) || (L && (l14 || g17)) || ((m || x) && n17) || ((c || e) && n13) || (r && n3 && n4))))))))))
      || (((F == false) && ((L == false) && ((m == false) && ((x == true) && ((n17 == false) && ((c == false) && ((e == true) && ((n13 == true) && (true == ((F && n3) || (L && (l14 || g17)) || ((m || x) && n17) || ((c || e) && n13) || (r && n3 && n4)))))))))))
      || (((F == false) && ((L == false) && ((m == true) && ((n17 == true) && (true == ((F && n3) || (L && (l14 || g17)) || ((m || x) && n17) || ((c || e) && n13) || (r && n3 && n4)))))))
      || (((F == false) && ((L == false) && ((m == false) && ((x == true) && ((n17 == true) && (true == ((F && n3) || (L && (l14 || g17)) || ((m || x) && n17) || ((c || e) && n13) || (r && n3 && n4))))))))
      || (((F == false) && ((L == true) && ((l14 == false) && ((g17 == false) && ((m == false) && ((x == false) && ((c == false) && ((e == false) && ((r == false) && (false == ((F && n3) || (L && (l14 || g17)) || ((m || x) && n17) || ((c || e) && n13) || (r && n3 && n4))))))))))))
      || (((F == false) && ((L == true) && ((l14 == false) && ((g17 == false) && ((m == false) && ((x == false) && ((c == false) && ((e == false) && ((r == true) && ((n3 == true) && ((n4 == true) && (true == ((F && n3) || (L && (l14 || g17)) || ((m || x) && n17) || ((c || e) && n13) || (r && n3 && n4))))))))))))))
      || (((F == false) && ((L == true) && ((l14 == false) && ((g17 == false) && ((m == false) && ((x == false) && ((c == true) && ((n13 == true) && (true == ((F && n3) || (L && (l14 || g17)) || ((m || x) && n17) || ((c || e) && n13) || (r && n3 && n4)))))))))))
      || (((F == false) && ((L == true) && ((l14 == false) && ((g17 == false) && ((m == false) && ((x == false) && ((c == false) && ((e == true) && ((n13 == true) && (true == ((F && n3) || (L && (l14 || g17)) || ((m || x) && n17) || ((c || e) && n13) || (r && n3 && n4))))))))))))
      || (((F == false) && ((L == true) && ((l14 == false) && ((g17 == false) && ((m == true) && ((n17 == false) && ((c == false) && ((e == false) && ((r == false) && (false == ((F && n3) || (L && (l14 || g17)) || ((m || x) && n17) || ((c || e) && n13) || (r && n3 && n4))))))))))))
      || (((F == false) && ((L == true) && ((l14 == false) && ((g17 == false) && ((m == true) && ((n17 == false) && ((c == false) && ((e == false) && ((r == true) && ((n3 == true) && ((n4 == true) && (true == ((F && n3) || (L && (l14 || g17)) || ((m || x) && n17) || ((c || e) && n13) || (r && n3 && n4))))))))))))))
      || (((F == false) && ((L == true) && ((l14 == false) && ((g17 == false) && ((m == true) && ((n17 == false) && ((c == true) && ((n13 == true) && (true == ((F && n3) || (L && (l14 || g17)) || ((m || x) && n17) || ((c || e) && n13) || (r && n3 && n4)))))))))))
      || (((F == false) && ((L == true) && ((l14 == false) && ((g17 == false) && ((m == true) && ((n17 == false) && ((c == false) && ((e == true) && ((n13 == true) && (true == ((F && n3) || (L && (l14 || g17)) || ((m || x) && n17) || ((c || e) && n13) || (r && n3 && n4))))))))))))
      || (((F == false) && ((L == true) && ((l14 == false) && ((g17 == false) && ((m == false) && ((x == true) && ((n17 == false) && ((c == false) && ((e == false) && ((r == false) && (false == ((F && n3) || (L && (l14 || g17)) || ((m || x) && n17) || ((c || e) && n13) || (r && n3 && n4)))))))))))))
      || (((F == false) && ((L == true) && ((l14 == false) && ((g17 == false) && ((m == false) && ((x == true) && ((n17 == false) && ((c == false) && ((e == false) && ((r == true) && ((n3 == true) && ((n4 == true) && (true == ((F && n3) || (L && (l14 || g17)) || ((m || x) && n17) || ((c || e) && n13) || (r && n3 && n4)))))))))))))))
      || (((F == false) && ((L == true) && ((l14 == false) && ((g17 == false) && ((m == false) && ((x == true) && ((n17 == false) && ((c == true) && ((n13 == true) && (true == ((F && n3) || (L && (l14 || g17)) || ((m || x) && n17) || ((c || e) && n13) || (r && n3 && n4))))))))))))
      || (((F == false) && ((L == true) && ((l14 == false) && ((g17 == false) && ((m == false) && ((x == true) && ((n17 == false) && ((c == false) && ((e == true) && ((n13 == true) && (true == ((F && n3) || (L && (l14 || g17)) || ((m || x) && n17) || ((c || e) && n13) || (r && n3 && n4)))))))))))))
      || (((F == false) && ((L == true) && ((l14 == false) && ((g17 == false) && ((m == true) && ((n17 == true) && (true == ((F && n3) || (L && (l14 || g17)) || ((m || x) && n17) || ((c || e) && n13) || (r && n3 && n4)))))))))
      || (((F == false) && ((L == true) && ((l14 == false) && ((g17 == false) && ((m == false) && ((x == true) && ((n17 == true) && (true == ((F && n3) || (L && (l14 || g17)) || ((m || x) && n17) || ((c || e) && n13) || (r && n3 && n4))))))))))
      || (((F == false) && ((L == true) && ((l14 == true) && (true == ((F && n3) || (L && (l14 || g17)) || ((m || x) && n17) || ((c || e) && n13) || (r && n3 && n4))))))
      || (((F == false) && ((L == true) && ((l14 == false) && ((g17 == true) && (true == ((F && n3) || (L && (l14 || g17)) || ((m || x) && n17) || ((c || e) && n13) || (r && n3 && n4)))))))
      || (((F == true) && ((n3 == false) && ((L == false) && ((m == false) && ((x == false) && ((c == false) && ((e == false) && ((r == false) && (false == ((F && n3) || (L && (l14 || g17)) || ((m || x) && n17) || ((c || e) && n13) || (r && n3 && n4)))))))))))
      || (((F == true) && ((n3 == false) && ((L == false) && ((m == false) && ((x == false) && ((c == false) && ((e == false) && ((r == true) && (false == ((F && n3) || (L && (l14 || g17)) || ((m || x) && n17) || ((c || e) && n13) || (r && n3 && n4)))))))))))
      || (((F == true) && ((n3 == false) && ((L == false) && ((m == false) && ((x == false) && ((c == true) && ((n13 == true) && (true == ((F && n3) || (L && (l14 || g17)) || ((m || x) && n17) || ((c || e) && n13) || (r && n3 && n4))))))))))
      || (((F == true) && ((n3 == false) && ((L == false) && ((m == false) && ((x == false) && ((c == false) && ((e == true) && ((n13 == true) && (true == ((F && n3) || (L && (l14 || g17)) || ((m || x) && n17) || ((c || e) && n13) || (r && n3 && n4)))))))))))
      || (((F == true) && ((n3 == false) && ((L == false) && ((m == true) && ((n17 == true) && (true == ((F && n3) || (L && (l14 || g17)) || ((m || x) && n17) || ((c || e) && n13) || (r && n3 && n4))))))))
      || (((F == true) && ((n3 == false) && ((L == false) && ((m == false) && ((x == true) && ((n17 == true) && (true == ((F && n3) || (L && (l14 || g17)) || ((m || x) && n17) || ((c || e) && n13) || (r && n3 && n4)))))))))
      || (((F == true) && ((n3 == false) && ((L == true) && ((l14 == true) && (true == ((F && n3) || (L && (l14 || g17)) || ((m || x) && n17) || ((c || e) && n13) || (r && n3 && n4)))))))
      || ((F == true) && ((n3 == true) && (true == ((F && n3) || (L && (l14 || g17)) || ((m || x) && n17) || ((c || e) && n13) || (r && n3 && n4)))))
     )))))))))))))))))))))))))))))))))))))))))))

theorem scen : ∀ F L n3 l14 g17 m x n17 c e n13 r n4 : Bool, (!(consB n3 l14 g17 n17 n13 n4) || scenB F L n3 l14 g17 m x n17 c e n13 r n4) = true := by decide +kernel

theorem cons_op (op : Int) : consB (op != 3) (decide (op < 14)) (decide (17 < op)) (op != 17) (op != 13) (op != 4) = true := by
  by_cases h3 : op = 3
  · subst h3; rfl
  · by_cases h4 : op = 4
    · subst h4; rfl
    · by_cases h13 : op = 13
      · subst h13; rfl
      · by_cases h17 : op = 17
        · subst h17; rfl
        · have e3 : (op != 3) = true := by simp [h3]
          have e4 : (op != 4) = true := by simp [h4]
          have e13 : (op != 13) = true := by simp [h13]
          have e17 : (op != 17) = true := by simp [h17]
          have e : (!decide (op < 14) || !decide (17 < op)) = true := by simp; omega
          rw [e3, e4, e13, e17]
          simp only [consB]
          simpa using e

theorem top_scen (nd : Nd) :
    (nd.fold = false ∧ nd.lazy = false ∧ (nd.mn != 0) = false ∧ (nd.mx != 0) = false ∧ (nd.cap != 0) = false ∧ (!nd.name.toList.isEmpty) = false ∧ decide (0 < nd.runes.length) = false ∧ Hid (false = topB nd)) ∨
    (nd.fold = false ∧ nd.lazy = false ∧ (nd.mn != 0) = false ∧ (nd.mx != 0) = false ∧ (nd.cap != 0) = false ∧ (!nd.name.toList.isEmpty) = false ∧ decide (0 < nd.runes.length) = true ∧ (nd.op != 3) = false ∧ Hid (false = topB nd)) ∨
    (nd.fold = false ∧ nd.lazy = false ∧ (nd.mn != 0) = false ∧ (nd.mx != 0) = false ∧ (nd.cap != 0) = false ∧ (!nd.name.toList.isEmpty) = false ∧ decide (0 < nd.runes.length) = true ∧ (nd.op != 3) = true ∧ (nd.op != 4) = false ∧ Hid (false = topB nd)) ∨
    (nd.fold = false ∧ nd.lazy = false ∧ (nd.mn != 0) = false ∧ (nd.mx != 0) = false ∧ (nd.cap != 0) = false ∧ (!nd.name.toList.isEmpty) = false ∧ decide (0 < nd.runes.length) = true ∧ (nd.op != 3) = true ∧ (nd.op != 4) = true ∧ Hid (true = topB nd)) ∨
    (nd.fold = false ∧ nd.lazy = false ∧ (nd.mn != 0) = false ∧ (nd.mx != 0) = false ∧ (nd.cap != 0) = true ∧ (nd.op != 13) = false ∧ decide (0 < nd.runes.length) = false ∧ Hid (false = topB nd)) ∨
    (nd.fold = false ∧ nd.lazy = false ∧ (nd.mn != 0) = false ∧ (nd.mx != 0) = false ∧ (nd.cap != 0) = true ∧ (nd.op != 13) = false ∧ decide (0 < nd.runes.length) = true ∧ (nd.op != 3) = true ∧ (nd.op != 4) = true ∧ Hid (true = topB nd)) ∨
    (nd.fold = false ∧ nd.lazy = false ∧ (nd.mn != 0) = false ∧ (nd.mx != 0) = false ∧ (nd.cap != 0) = false ∧ (!nd.name.toList.isEmpty) = true ∧ (nd.op != 13) = false ∧ decide (0 < nd.runes.length) = false ∧ Hid (false = topB nd)) ∨
    (nd.fold = false ∧ nd.lazy = false ∧ (nd.mn != 0) = false ∧ (nd.mx != 0) = false ∧ (nd.cap != 0) = false ∧ (!nd.name.toList.isEmpty) = true ∧ (nd.op != 13) = false ∧ decide (0 < nd.runes.length) = true ∧ (nd.op != 3) = true ∧ (nd.op != 4) = true ∧ Hid (true = topB nd)) ∨
    (nd.fold = false ∧ nd.lazy = false ∧ (nd.mn != 0) = false ∧ (nd.mx != 0) = false ∧ (nd.cap != 0) = true ∧ (nd.op != 13) = true ∧ Hid (true = topB nd)) ∨
    (nd.fold = false ∧ nd.lazy = false ∧ (nd.mn != 0) = false ∧ (nd.mx != 0) = false ∧ (nd.cap != 0) = false ∧ (!nd.name.toList.isEmpty) = true ∧ (nd.op != 13) = true ∧ Hid (true = topB nd)) ∨
    (nd.fold = false ∧ nd.lazy = false ∧ (nd.mn != 0) = true ∧ (nd.op != 17) = false ∧ (nd.cap != 0) = false ∧ (!nd.name.toList.isEmpty) = false ∧ decide (0 < nd.runes.length) = false ∧ Hid (false = topB nd)) ∨
    (nd.fold = false ∧ nd.lazy = false ∧ (nd.mn != 0) = true ∧ (nd.op != 17) = false ∧ (nd.cap != 0) = false ∧ (!nd.name.toList.isEmpty) = false ∧ decide (0 < nd.runes.length) = true ∧ (nd.op != 3) = true ∧ (nd.op != 4) = true ∧ Hid (true = topB nd)) ∨
    (nd.fold = false ∧ nd.lazy = false ∧ (nd.mn != 0) = true ∧ (nd.op != 17) = false ∧ (nd.cap != 0) = true ∧ (nd.op != 13) = true ∧ Hid (true = topB nd)) ∨
    (nd.fold = false ∧ nd.lazy = false ∧ (nd.mn != 0) = true ∧ (nd.op != 17) = false ∧ (nd.cap != 0) = false ∧ (!nd.name.toList.isEmpty) = true ∧ (nd.op != 13) = true ∧ Hid (true = topB nd)) ∨
    (nd.fold = false ∧ nd.lazy = false ∧ (nd.mn != 0) = false ∧ (nd.mx != 0) = true ∧ (nd.op != 17) = false ∧ (nd.cap != 0) = false ∧ (!nd.name.toList.isEmpty) = false ∧ decide (0 < nd.runes.length) = false ∧ Hid (false = topB nd)) ∨
    (nd.fold = false ∧ nd.lazy = false ∧ (nd.mn != 0) = false ∧ (nd.mx != 0) = true ∧ (nd.op != 17) = false ∧ (nd.cap != 0) = false ∧ (!nd.name.toList.isEmpty) = false ∧ decide (0 < nd.runes.length) = true ∧ (nd.op != 3) = true ∧ (nd.op != 4) = true ∧ Hid (true = topB nd)) ∨
    (nd.fold = false ∧ nd.lazy = false ∧ (nd.mn != 0) = false ∧ (nd.mx != 0) = true ∧ (nd.op != 17) = false ∧ (nd.cap != 0) = true ∧ (nd.op != 13) = true ∧ Hid (true = topB nd)) ∨
    (nd.fold = false ∧ nd.lazy = false ∧ (nd.mn != 0) = false ∧ (nd.mx != 0) = true ∧ (nd.op != 17) = false ∧ (nd.cap != 0) = false ∧ (!nd.name.toList.isEmpty) = true ∧ (nd.op != 13) = true ∧ Hid (true = topB nd)) ∨
    (nd.fold = false ∧ nd.lazy = false ∧ (nd.mn != 0) = true ∧ (nd.op != 17) = true ∧ Hid (true = topB nd)) ∨
    (nd.fold = false ∧ nd.lazy = false ∧ (nd.mn != 0) = false ∧ (nd.mx != 0) = true ∧ (nd.op != 17) = true ∧ Hid (true = topB nd)) ∨
    (nd.fold = false ∧ nd.lazy = true ∧ decide (nd.op < 14) = false ∧ decide (17 < nd.op) = false ∧ (nd.mn != 0) = false ∧ (nd.mx != 0) = false ∧ (nd.cap != 0) = false ∧ (!nd.name.toList.isEmpty) = false ∧ decide (0 < nd.runes.length) = false ∧ Hid (false = topB nd)) ∨
    (nd.fold = false ∧ nd.lazy = true ∧ decide (nd.op < 14) = false ∧ decide (17 < nd.op) = false ∧ (nd.mn != 0) = false ∧ (nd.mx != 0) = false ∧ (nd.cap != 0) = false ∧ (!nd.name.toList.isEmpty) = false ∧ decide (0 < nd.runes.length) = true ∧ (nd.op != 3) = true ∧ (nd.op != 4) = true ∧ Hid (true = topB nd)) ∨
    (nd.fold = false ∧ nd.lazy = true ∧ decide (nd.op < 14) = false ∧ decide (17 < nd.op) = false ∧ (nd.mn != 0) = false ∧ (nd.mx != 0) = false ∧ (nd.cap != 0) = true ∧ (nd.op != 13) = true ∧ Hid (true = topB nd)) ∨
    (nd.fold = false ∧ nd.lazy = true ∧ decide (nd.op < 14) = false ∧ decide (17 < nd.op) = false ∧ (nd.mn != 0) = false ∧ (nd.mx != 0) = false ∧ (nd.cap != 0) = false ∧ (!nd.name.toList.isEmpty) = true ∧ (nd.op != 13) = true ∧ Hid (true = topB nd)) ∨
    (nd.fold = false ∧ nd.lazy = true ∧ decide (nd.op < 14) = false ∧ decide (17 < nd.op) = false ∧ (nd.mn != 0) = true ∧ (nd.op != 17) = false ∧ (nd.cap != 0) = false ∧ (!nd.name.toList.isEmpty) = false ∧ decide (0 < nd.runes.length) = false ∧ Hid (false = topB nd)) ∨
    (nd.fold = false ∧ nd.lazy = true ∧ decide (nd.op < 14) = false ∧ decide (17 < nd.op) = false ∧ (nd.mn != 0) = true ∧ (nd.op != 17) = false ∧ (nd.cap != 0) = false ∧ (!nd.name.toList.isEmpty) = false ∧ decide (0 < nd.runes.length) = true ∧ (nd.op != 3) = true ∧ (nd.op != 4) = true ∧ Hid (true = topB nd)) ∨
    (nd.fold = false ∧ nd.lazy = true ∧ decide (nd.op < 14) = false ∧ decide (17 < nd.op) = false ∧ (nd.mn != 0) = true ∧ (nd.op != 17) = false ∧ (nd.cap != 0) = true ∧ (nd.op != 13) = true ∧ Hid (true = topB nd)) ∨
    (nd.fold = false ∧ nd.lazy = true ∧ decide (nd.op < 14) = false ∧ decide (17 < nd.op) = false ∧ (nd.mn != 0) = true ∧ (nd.op != 17) = false ∧ (nd.cap != 0) = false ∧ (!nd.name.toList.isEmpty) = true ∧ (nd.op != 13) = true ∧ Hid (true = topB nd)) ∨
    (nd.fold = false ∧ nd.lazy = true ∧ decide (nd.op < 14) = false ∧ decide (17 < nd.op) = false ∧ (nd.mn != 0) = false ∧ (nd.mx != 0) = true ∧ (nd.op != 17) = false ∧ (nd.cap != 0) = false ∧ (!nd.name.toList.isEmpty) = false ∧ decide (0 < nd.runes.length) = false ∧ Hid (false = topB nd)) ∨
    (nd.fold = false ∧ nd.lazy = true ∧ decide (nd.op < 14) = false ∧ decide (17 < nd.op) = false ∧ (nd.mn != 0) = false ∧ (nd.mx != 0) = true ∧ (nd.op != 17) = false ∧ (nd.cap != 0) = false ∧ (!nd.name.toList.isEmpty) = false ∧ decide (0 < nd.runes.length) = true ∧ (nd.op != 3) = true ∧ (nd.op != 4) = true ∧ Hid (true = topB nd)) ∨
    (nd.fold = false ∧ nd.lazy = true ∧ decide (nd.op < 14) = false ∧ decide (17 < nd.op) = false ∧ (nd.mn != 0) = false ∧ (nd.mx != 0) = true ∧ (nd.op != 17) = false ∧ (nd.cap != 0) = true ∧ (nd.op != 13) = true ∧ Hid (true = topB nd)) ∨
    (nd.fold = false ∧ nd.lazy = true ∧ decide (nd.op < 14) = false ∧ decide (17 < nd.op) = false ∧ (nd.mn != 0) = false ∧ (nd.mx != 0) = true ∧ (nd.op != 17) = false ∧ (nd.cap != 0) = false ∧ (!nd.name.toList.isEmpty) = true ∧ (nd.op != 13) = true ∧ Hid (true = topB nd)) ∨
    (nd.fold = false ∧ nd.lazy = true ∧ decide (nd.op < 14) = false ∧ decide (17 < nd.op) = false ∧ (nd.mn != 0) = true ∧ (nd.op != 17) = true ∧ Hid (true = topB nd)) ∨
    (nd.fold = false ∧ nd.lazy = true ∧ decide (nd.op < 14) = false ∧ decide (17 < nd.op) = false ∧ (nd.mn != 0) = false ∧ (nd.mx != 0) = true ∧ (nd.op != 17) = true ∧ Hid (true = topB nd)) ∨
    (nd.fold = false ∧ nd.lazy = true ∧ decide (nd.op < 14) = true ∧ Hid (true = topB nd)) ∨
    (nd.fold = false ∧ nd.lazy = true ∧ decide (nd.op < 14) = false ∧ decide (17 < nd.op) = true ∧ Hid (true = topB nd)) ∨
    (nd.fold = true ∧ (nd.op != 3) = false ∧ nd.lazy = false ∧ (nd.mn != 0) = false ∧ (nd.mx != 0) = false ∧ (nd.cap != 0) = false ∧ (!nd.name.toList.isEmpty) = false ∧ decide (0 < nd.runes.length) = false ∧ Hid (false = topB nd)) ∨
    (nd.fold = true ∧ (nd.op != 3) = false ∧ nd.lazy = false ∧ (nd.mn != 0) = false ∧ (nd.mx != 0) = false ∧ (nd.cap != 0) = false ∧ (!nd.name.toList.isEmpty) = false ∧ decide (0 < nd.runes.length) = true ∧ Hid (false = topB nd)) ∨
    (nd.fold = true ∧ (nd.op != 3) = false ∧ nd.lazy = false ∧ (nd.mn != 0) = false ∧ (nd.mx != 0) = false ∧ (nd.cap != 0) = true ∧ (nd.op != 13) = true ∧ Hid (true = topB nd)) ∨
    (nd.fold = true ∧ (nd.op != 3) = false ∧ nd.lazy = false ∧ (nd.mn != 0) = false ∧ (nd.mx != 0) = false ∧ (nd.cap != 0) = false ∧ (!nd.name.toList.isEmpty) = true ∧ (nd.op != 13) = true ∧ Hid (true = topB nd)) ∨
    (nd.fold = true ∧ (nd.op != 3) = false ∧ nd.lazy = false ∧ (nd.mn != 0) = true ∧ (nd.op != 17) = true ∧ Hid (true = topB nd)) ∨
    (nd.fold = true ∧ (nd.op != 3) = false ∧ nd.lazy = false ∧ (nd.mn != 0) = false ∧ (nd.mx != 0) = true ∧ (nd.op != 17) = true ∧ Hid (true = topB nd)) ∨
    (nd.fold = true ∧ (nd.op != 3) = false ∧ nd.lazy = true ∧ decide (nd.op < 14) = true ∧ Hid (true = topB nd)) ∨
    (nd.fold = true ∧ (nd.op != 3) = true ∧ Hid (true = topB nd)) := by
  have h := scen (nd.fold) (nd.lazy) ((nd.op != 3)) (decide (nd.op < 14)) (decide (17 < nd.op)) ((nd.mn != 0)) ((nd.mx != 0)) ((nd.op != 17)) ((nd.cap != 0)) ((!nd.name.toList.isEmpty)) ((nd.op != 13)) (decide (0 < nd.runes.length)) ((nd.op != 4))
  rw [cons_op] at h
  simp only [Bool.not_true, Bool.false_or, scenB, Bool.or_eq_true, Bool.and_eq_true, beq_iff_eq] at h
  exact h
end Go.Proofs.Ytejhffcjamdffaa

/- impl.alone, of every kind. -/
import Derived.Test.YtikimffifkiinaaAlone
namespace Go.Proofs.Ytikimffifkiinaa
open Go.RowKit
set_option linter.unusedVariables false
set_option linter.unusedSimpArgs false

set_option maxRecDepth 100000 in
theorem alone_1 (tag text : ByteArray) (aa : Option Addr) (al ac : Nat) (z : Int) (w : World) :
    Calls Try.prog 59 #[.agg #[.int .i64 1, .string tag, .string text, .slice aa al ac, .int .i64 z]] w (AlonePost ⟨1, tag, text, aa, al, ac, [], z⟩ w) := by
  have fin : World.nodeAt ((w.alloc (.cells #[.int .i64 1, .string tag, .string text, .slice aa al ac, .int .i64 z] 37)).alloc (aloneR ⟨1, tag, text, aa, al, ac, [], z⟩ (.slice none 0 0)).obj) (w.heap.size + 1) (aloneR ⟨1, tag, text, aa, al, ac, [], z⟩ (.slice none 0 0)) := by
    have := nodeAt_alloc_new (w.alloc (Obj.cells #[Value.int .i64 1, .string tag, .string text, .slice aa al ac, .int .i64 z] 37)) (aloneR ⟨1, tag, text, aa, al, ac, [], z⟩ (.slice none 0 0))
    rw [World.size_alloc] at this
    exact this
  have FIN := Lib.hid fin
  clear fin
  go_enter Try.func59, Try.ntmps59
  go_wp2
  go_ret
  exact ⟨w.heap.size + 1, .slice none 0 0, rfl, FIN.out, World.ownsRow_nil _ _ _ _, by omega, ((Below.refl _ _).alloc (Nat.le_refl _) _).alloc (by simp) _⟩

set_option maxRecDepth 100000 in
theorem alone_2 (tag text : ByteArray) (aa : Option Addr) (al ac : Nat) (z : Int) (w : World) :
    Calls Try.prog 59 #[.agg #[.int .i64 2, .string tag, .string text, .slice aa al ac, .int .i64 z]] w (AlonePost ⟨2, tag, text, aa, al, ac, [], z⟩ w) := by
  have fin : World.nodeAt ((w.alloc (.cells #[.int .i64 2, .string tag, .string text, .slice aa al ac, .int .i64 z] 37)).alloc (aloneR ⟨2, tag, text, aa, al, ac, [], z⟩ (.slice none 0 0)).obj) (w.heap.size + 1) (aloneR ⟨2, tag, text, aa, al, ac, [], z⟩ (.slice none 0 0)) := by
    have := nodeAt_alloc_new (w.alloc (Obj.cells #[Value.int .i64 2, .string tag, .string text, .slice aa al ac, .int .i64 z] 37)) (aloneR ⟨2, tag, text, aa, al, ac, [], z⟩ (.slice none 0 0))
    rw [World.size_alloc] at this
    exact this
  have FIN := Lib.hid fin
  clear fin
  go_enter Try.func59, Try.ntmps59
  go_wp2
  go_ret
  exact ⟨w.heap.size + 1, .slice none 0 0, rfl, FIN.out, World.ownsRow_nil _ _ _ _, by omega, ((Below.refl _ _).alloc (Nat.le_refl _) _).alloc (by simp) _⟩

set_option maxRecDepth 100000 in
theorem alone_4 (tag text : ByteArray) (aa : Option Addr) (al ac : Nat) (z : Int) (w : World) :
    Calls Try.prog 59 #[.agg #[.int .i64 4, .string tag, .string text, .slice aa al ac, .int .i64 z]] w (AlonePost ⟨4, tag, text, aa, al, ac, [], z⟩ w) := by
  have fin : World.nodeAt ((w.alloc (.cells #[.int .i64 4, .string tag, .string text, .slice aa al ac, .int .i64 z] 37)).alloc (aloneR ⟨4, tag, text, aa, al, ac, [], z⟩ (.slice none 0 0)).obj) (w.heap.size + 1) (aloneR ⟨4, tag, text, aa, al, ac, [], z⟩ (.slice none 0 0)) := by
    have := nodeAt_alloc_new (w.alloc (Obj.cells #[Value.int .i64 4, .string tag, .string text, .slice aa al ac, .int .i64 z] 37)) (aloneR ⟨4, tag, text, aa, al, ac, [], z⟩ (.slice none 0 0))
    rw [World.size_alloc] at this
    exact this
  have FIN := Lib.hid fin
  clear fin
  go_enter Try.func59, Try.ntmps59
  go_wp2
  go_ret
  exact ⟨w.heap.size + 1, .slice none 0 0, rfl, FIN.out, World.ownsRow_nil _ _ _ _, by omega, ((Below.refl _ _).alloc (Nat.le_refl _) _).alloc (by simp) _⟩

set_option maxRecDepth 100000 in
theorem alone_5 (tag text : ByteArray) (aa : Option Addr) (al ac : Nat) (z : Int) (w : World) :
    Calls Try.prog 59 #[.agg #[.int .i64 5, .string tag, .string text, .slice aa al ac, .int .i64 z]] w (AlonePost ⟨5, tag, text, aa, al, ac, [], z⟩ w) := by
  have fin : World.nodeAt ((w.alloc (.cells #[.int .i64 5, .string tag, .string text, .slice aa al ac, .int .i64 z] 37)).alloc (aloneR ⟨5, tag, text, aa, al, ac, [], z⟩ (.slice none 0 0)).obj) (w.heap.size + 1) (aloneR ⟨5, tag, text, aa, al, ac, [], z⟩ (.slice none 0 0)) := by
    have := nodeAt_alloc_new (w.alloc (Obj.cells #[Value.int .i64 5, .string tag, .string text, .slice aa al ac, .int .i64 z] 37)) (aloneR ⟨5, tag, text, aa, al, ac, [], z⟩ (.slice none 0 0))
    rw [World.size_alloc] at this
    exact this
  have FIN := Lib.hid fin
  clear fin
  go_enter Try.func59, Try.ntmps59
  go_wp2
  go_ret
  exact ⟨w.heap.size + 1, .slice none 0 0, rfl, FIN.out, World.ownsRow_nil _ _ _ _, by omega, ((Below.refl _ _).alloc (Nat.le_refl _) _).alloc (by simp) _⟩

theorem alone_any (n : NodeD) (z at_ : Nat) (w : World) (hok : NodeOk n z at_) (h : AttrsAt w n.aa n.al n.attrs) :
    Calls Try.prog 59 #[.agg #[.int .i64 n.kind, .string n.tag, .string n.text, .slice n.aa n.al n.ac, .int .i64 n.size]] w (AlonePost n w) := by
  obtain ⟨k, tag, text, aa, al, ac, l, size⟩ := n
  obtain ⟨hk, hb, ha⟩ := hok
  simp only at hk hb ha h ⊢
  rcases hk with ⟨rfl, _⟩ | ⟨rfl, _⟩ | rfl | ⟨rfl, _⟩ | ⟨rfl, _⟩
  · obtain rfl : l = [] := (hb (by decide)).2
    exact alone_1 tag text aa al ac size w
  · obtain rfl : l = [] := (hb (by decide)).2
    exact alone_2 tag text aa al ac size w
  · exact alone_elem tag text aa al ac l size w h (by have := (ha rfl).1; have := h.1; omega)
  · obtain rfl : l = [] := (hb (by decide)).2
    exact alone_4 tag text aa al ac size w
  · obtain rfl : l = [] := (hb (by decide)).2
    exact alone_5 tag text aa al ac size w

end Go.Proofs.Ytikimffifkiinaa

/-
  What the asks of ranges of columns answer, together (imports alone).
-/
import Derived.Test.YtlcoodjkolponaaDoorRRe
import Derived.Test.YtlcoodjkolponaaDoorRRf

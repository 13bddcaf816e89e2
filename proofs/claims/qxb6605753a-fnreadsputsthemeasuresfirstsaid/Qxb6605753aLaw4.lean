/-
  The four walks of 'FnReadsPutsTheMeasuresFirst', together.
-/
import Derived.Test.Qxb6605753aLaw4a
import Derived.Test.Qxb6605753aLaw4b
import Derived.Test.Qxb6605753aLaw4c
import Derived.Test.Qxb6605753aLaw4d
